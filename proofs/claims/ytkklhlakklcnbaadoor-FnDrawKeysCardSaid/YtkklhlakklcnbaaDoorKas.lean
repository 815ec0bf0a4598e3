/- Texts of this claim, joined: Y36 Y38 Y39 Y40. Of each, what the claim uses. -/
import Derived.Test.YtkklhlakklcnbaaDoorKac
import Derived.Test.YtkklhlakklcnbaaDoorKar
import Derived.Test.YtkklhlakklcnbaaDoorKaq
section
namespace Go.Proofs.YtkklhlakklcnbaaDoor.Y
open Go.RowKit Go.Proofs.YtkklhlakklcnbaaDoorW.PrintWords Go.Proofs.YtkklhlakklcnbaaDoorW.PrintLast Go.Proofs.YtkklhlakklcnbaaDoorW.PrintMore
attribute [local go_sem] max2_int min2_int max_two min_two max_three min_three max_four min_four   -- for this text's walks alone
set_option linter.unusedVariables false
set_option linter.unusedSimpArgs false
set_option maxHeartbeats 8000000 in
set_option maxRecDepth 100000 in
theorem impl_MakeNumber.calls (a0 : Int) (a1 : Int) (r : ByteArray) (w : World) (hT : XTab w) (h : impl_MakeNumber.f a0 a1 = some r) :
    Calls Tryd.prog 5 #[.int .i64 a0, .int .i64 a1] w fun e w' => e = .returned (.string r) ∧ Below w.heap.size w w' := by
  have HT := Aside0.mk hT
  clear hT
  have HB := Aside0.mk (Below.refl w.heap.size w)
  have H : (if a0 = 0 then ((xansi_CursorUp.f a1).bind fun t107 => (some t107)) else (if a0 = 1 then (none) else (if a0 = 2 then (none) else (if a0 = 3 then (none) else (if a0 = 4 then (none) else (if a0 = 5 then (none) else (if a0 = 6 then (none) else (if a0 = 7 then (none) else (if a0 = 8 then (none) else (if a0 = 9 then (none) else (if a0 = 10 then (none) else (if a0 = 11 then (none) else (if a0 = 12 then (none) else (if a0 = 13 then (none) else (if a0 = 14 then (none) else (if a0 = 15 then (none) else (if a0 = 16 then (none) else (if a0 = 17 then (none) else (if a0 = 18 then (none) else (if a0 = 19 then (none) else (if a0 = 20 then (none) else (if a0 = 21 then (none) else (if a0 = 22 then (none) else (if a0 = 23 then (none) else (if a0 = 24 then (none) else (if a0 = 25 then (none) else (if a0 = 26 then ((xansi_PushKittyKeyboard.f a1).bind fun t108 => (some t108)) else (if a0 = 27 then ((xansi_PopKittyKeyboard.f a1).bind fun t109 => (some t109)) else (if a0 = 28 then (none) else (if a0 = 29 then (none) else (if a0 = 30 then (none) else (if a0 = 31 then ((xansi_SetProgressBar.f a1).bind fun t110 => (some t110)) else (if a0 = 32 then ((xansi_SetErrorProgressBar.f a1).bind fun t111 => (some t111)) else (if a0 = 33 then ((xansi_SetWarningProgressBar.f a1).bind fun t112 => (some t112)) else (some (⟨#[]⟩ : ByteArray)))))))))))))))))))))))))))))))))))) = some r := h
  clear h
  by_cases c3 : a0 = 0
  · rw [if_pos c3] at H
    have c3b0 : (a0 == 0) = true := beq_iff_eq.mpr c3
    have c3b1 : (a0 != 0) = false := bne_eq_false_iff_eq.mpr c3
    clear c3
    replace H := Option.bind_eq_some_iff.mp H
    obtain ⟨t107, A40, H⟩ := H
    replace H : (some t107) = some r := H
    have A4 := Aside0.mk A40
    clear A40
    obtain rfl := Option.some.inj H
    go_enter Tryd.func5, Tryd.ntmps5
    go_wp2_with (first | ((with_reducible refine gate_callee (f := 10) rfl ?_); refine goesL_ (some 11) rfl rfl Tryd.func10 (by kernel_rfl) rfl #[.int .i64 a1] rfl (by (try simp only [List.map_toArray, List.map_cons, List.map_nil]); first | done | rfl | (simp only [List.length_drop, List.length_take]; rfl)) ?_; (with_reducible refine (xansi_CursorUp.calls a1 t107 _ ?side1 A4.out).mono ?_); (case side1 => exact XTab.below HT.out (by repeat (first | (with_reducible first | exact HB.out | apply below_alloc | apply pw_below_drewN | apply below_drew1) | exact HB.out))); rintro e w5 ⟨rfl, hb⟩; refine ⟨_, rfl, ?_⟩; have n0_ := Aside0.mk (below_step (by repeat (first | (with_reducible first | exact HB.out | apply below_alloc | apply pw_below_drewN | apply below_drew1) | exact HB.out)) hb); clear HB; have HB := n0_; clear n0_; (try clear hb); (try clear hb2); (try clear hk); (try clear hi)))
    go_ret
    exact ⟨by first | rfl | (simp [errW_none, errW_some] <;> rfl) | (simp [*, errW_none, errW_some] <;> rfl), by repeat (first | (with_reducible first | exact HB.out | apply below_alloc | apply pw_below_drewN | apply below_drew1) | exact HB.out)⟩
  · rw [if_neg c3] at H
    have c3b0 : (a0 == 0) = false := beq_eq_false_iff_ne.mpr c3
    have c3b1 : (a0 != 0) = true := bne_iff_ne.mpr c3
    by_cases c6 : a0 = 1
    · rw [if_pos c6] at H
      exact absurd H (by simp)
    · rw [if_neg c6] at H
      have c6b0 : (a0 == 1) = false := beq_eq_false_iff_ne.mpr c6
      have c6b1 : (a0 != 1) = true := bne_iff_ne.mpr c6
      by_cases c7 : a0 = 2
      · rw [if_pos c7] at H
        exact absurd H (by simp)
      · rw [if_neg c7] at H
        have c7b0 : (a0 == 2) = false := beq_eq_false_iff_ne.mpr c7
        have c7b1 : (a0 != 2) = true := bne_iff_ne.mpr c7
        by_cases c8 : a0 = 3
        · rw [if_pos c8] at H
          exact absurd H (by simp)
        · rw [if_neg c8] at H
          have c8b0 : (a0 == 3) = false := beq_eq_false_iff_ne.mpr c8
          have c8b1 : (a0 != 3) = true := bne_iff_ne.mpr c8
          by_cases c9 : a0 = 4
          · rw [if_pos c9] at H
            exact absurd H (by simp)
          · rw [if_neg c9] at H
            have c9b0 : (a0 == 4) = false := beq_eq_false_iff_ne.mpr c9
            have c9b1 : (a0 != 4) = true := bne_iff_ne.mpr c9
            by_cases c10 : a0 = 5
            · rw [if_pos c10] at H
              exact absurd H (by simp)
            · rw [if_neg c10] at H
              have c10b0 : (a0 == 5) = false := beq_eq_false_iff_ne.mpr c10
              have c10b1 : (a0 != 5) = true := bne_iff_ne.mpr c10
              by_cases c11 : a0 = 6
              · rw [if_pos c11] at H
                exact absurd H (by simp)
              · rw [if_neg c11] at H
                have c11b0 : (a0 == 6) = false := beq_eq_false_iff_ne.mpr c11
                have c11b1 : (a0 != 6) = true := bne_iff_ne.mpr c11
                by_cases c12 : a0 = 7
                · rw [if_pos c12] at H
                  exact absurd H (by simp)
                · rw [if_neg c12] at H
                  have c12b0 : (a0 == 7) = false := beq_eq_false_iff_ne.mpr c12
                  have c12b1 : (a0 != 7) = true := bne_iff_ne.mpr c12
                  by_cases c13 : a0 = 8
                  · rw [if_pos c13] at H
                    exact absurd H (by simp)
                  · rw [if_neg c13] at H
                    have c13b0 : (a0 == 8) = false := beq_eq_false_iff_ne.mpr c13
                    have c13b1 : (a0 != 8) = true := bne_iff_ne.mpr c13
                    by_cases c14 : a0 = 9
                    · rw [if_pos c14] at H
                      exact absurd H (by simp)
                    · rw [if_neg c14] at H
                      have c14b0 : (a0 == 9) = false := beq_eq_false_iff_ne.mpr c14
                      have c14b1 : (a0 != 9) = true := bne_iff_ne.mpr c14
                      by_cases c15 : a0 = 10
                      · rw [if_pos c15] at H
                        exact absurd H (by simp)
                      · rw [if_neg c15] at H
                        have c15b0 : (a0 == 10) = false := beq_eq_false_iff_ne.mpr c15
                        have c15b1 : (a0 != 10) = true := bne_iff_ne.mpr c15
                        by_cases c16 : a0 = 11
                        · rw [if_pos c16] at H
                          exact absurd H (by simp)
                        · rw [if_neg c16] at H
                          have c16b0 : (a0 == 11) = false := beq_eq_false_iff_ne.mpr c16
                          have c16b1 : (a0 != 11) = true := bne_iff_ne.mpr c16
                          by_cases c17 : a0 = 12
                          · rw [if_pos c17] at H
                            exact absurd H (by simp)
                          · rw [if_neg c17] at H
                            have c17b0 : (a0 == 12) = false := beq_eq_false_iff_ne.mpr c17
                            have c17b1 : (a0 != 12) = true := bne_iff_ne.mpr c17
                            by_cases c18 : a0 = 13
                            · rw [if_pos c18] at H
                              exact absurd H (by simp)
                            · rw [if_neg c18] at H
                              have c18b0 : (a0 == 13) = false := beq_eq_false_iff_ne.mpr c18
                              have c18b1 : (a0 != 13) = true := bne_iff_ne.mpr c18
                              by_cases c19 : a0 = 14
                              · rw [if_pos c19] at H
                                exact absurd H (by simp)
                              · rw [if_neg c19] at H
                                have c19b0 : (a0 == 14) = false := beq_eq_false_iff_ne.mpr c19
                                have c19b1 : (a0 != 14) = true := bne_iff_ne.mpr c19
                                by_cases c20 : a0 = 15
                                · rw [if_pos c20] at H
                                  exact absurd H (by simp)
                                · rw [if_neg c20] at H
                                  have c20b0 : (a0 == 15) = false := beq_eq_false_iff_ne.mpr c20
                                  have c20b1 : (a0 != 15) = true := bne_iff_ne.mpr c20
                                  by_cases c21 : a0 = 16
                                  · rw [if_pos c21] at H
                                    exact absurd H (by simp)
                                  · rw [if_neg c21] at H
                                    have c21b0 : (a0 == 16) = false := beq_eq_false_iff_ne.mpr c21
                                    have c21b1 : (a0 != 16) = true := bne_iff_ne.mpr c21
                                    by_cases c22 : a0 = 17
                                    · rw [if_pos c22] at H
                                      exact absurd H (by simp)
                                    · rw [if_neg c22] at H
                                      have c22b0 : (a0 == 17) = false := beq_eq_false_iff_ne.mpr c22
                                      have c22b1 : (a0 != 17) = true := bne_iff_ne.mpr c22
                                      by_cases c23 : a0 = 18
                                      · rw [if_pos c23] at H
                                        exact absurd H (by simp)
                                      · rw [if_neg c23] at H
                                        have c23b0 : (a0 == 18) = false := beq_eq_false_iff_ne.mpr c23
                                        have c23b1 : (a0 != 18) = true := bne_iff_ne.mpr c23
                                        by_cases c24 : a0 = 19
                                        · rw [if_pos c24] at H
                                          exact absurd H (by simp)
                                        · rw [if_neg c24] at H
                                          have c24b0 : (a0 == 19) = false := beq_eq_false_iff_ne.mpr c24
                                          have c24b1 : (a0 != 19) = true := bne_iff_ne.mpr c24
                                          by_cases c25 : a0 = 20
                                          · rw [if_pos c25] at H
                                            exact absurd H (by simp)
                                          · rw [if_neg c25] at H
                                            have c25b0 : (a0 == 20) = false := beq_eq_false_iff_ne.mpr c25
                                            have c25b1 : (a0 != 20) = true := bne_iff_ne.mpr c25
                                            by_cases c26 : a0 = 21
                                            · rw [if_pos c26] at H
                                              exact absurd H (by simp)
                                            · rw [if_neg c26] at H
                                              have c26b0 : (a0 == 21) = false := beq_eq_false_iff_ne.mpr c26
                                              have c26b1 : (a0 != 21) = true := bne_iff_ne.mpr c26
                                              by_cases c27 : a0 = 22
                                              · rw [if_pos c27] at H
                                                exact absurd H (by simp)
                                              · rw [if_neg c27] at H
                                                have c27b0 : (a0 == 22) = false := beq_eq_false_iff_ne.mpr c27
                                                have c27b1 : (a0 != 22) = true := bne_iff_ne.mpr c27
                                                by_cases c28 : a0 = 23
                                                · rw [if_pos c28] at H
                                                  exact absurd H (by simp)
                                                · rw [if_neg c28] at H
                                                  have c28b0 : (a0 == 23) = false := beq_eq_false_iff_ne.mpr c28
                                                  have c28b1 : (a0 != 23) = true := bne_iff_ne.mpr c28
                                                  by_cases c29 : a0 = 24
                                                  · rw [if_pos c29] at H
                                                    exact absurd H (by simp)
                                                  · rw [if_neg c29] at H
                                                    have c29b0 : (a0 == 24) = false := beq_eq_false_iff_ne.mpr c29
                                                    have c29b1 : (a0 != 24) = true := bne_iff_ne.mpr c29
                                                    by_cases c30 : a0 = 25
                                                    · rw [if_pos c30] at H
                                                      exact absurd H (by simp)
                                                    · rw [if_neg c30] at H
                                                      have c30b0 : (a0 == 25) = false := beq_eq_false_iff_ne.mpr c30
                                                      have c30b1 : (a0 != 25) = true := bne_iff_ne.mpr c30
                                                      by_cases c31 : a0 = 26
                                                      · rw [if_pos c31] at H
                                                        have c31b0 : (a0 == 26) = true := beq_iff_eq.mpr c31
                                                        have c31b1 : (a0 != 26) = false := bne_eq_false_iff_eq.mpr c31
                                                        clear c31
                                                        replace H := Option.bind_eq_some_iff.mp H
                                                        obtain ⟨t108, A320, H⟩ := H
                                                        replace H : (some t108) = some r := H
                                                        have A32 := Aside0.mk A320
                                                        clear A320
                                                        obtain rfl := Option.some.inj H
                                                        go_enter Tryd.func5, Tryd.ntmps5
                                                        go_wp2_with (first | ((with_reducible refine gate_callee (f := 36) rfl ?_); refine goesL_ (some 115) rfl rfl Tryd.func36 (by kernel_rfl) rfl #[.int .i64 a1] rfl (by (try simp only [List.map_toArray, List.map_cons, List.map_nil]); first | done | rfl | (simp only [List.length_drop, List.length_take]; rfl)) ?_; (with_reducible refine (xansi_PushKittyKeyboard.calls a1 t108 _ ?side1 A32.out).mono ?_); (case side1 => exact XTab.below HT.out (by repeat (first | (with_reducible first | exact HB.out | apply below_alloc | apply pw_below_drewN | apply below_drew1) | exact HB.out))); rintro e w33 ⟨rfl, hb⟩; refine ⟨_, rfl, ?_⟩; have n0_ := Aside0.mk (below_step (by repeat (first | (with_reducible first | exact HB.out | apply below_alloc | apply pw_below_drewN | apply below_drew1) | exact HB.out)) hb); clear HB; have HB := n0_; clear n0_; (try clear hb); (try clear hb2); (try clear hk); (try clear hi)))
                                                        go_ret
                                                        exact ⟨by first | rfl | (simp [errW_none, errW_some] <;> rfl) | (simp [*, errW_none, errW_some] <;> rfl), by repeat (first | (with_reducible first | exact HB.out | apply below_alloc | apply pw_below_drewN | apply below_drew1) | exact HB.out)⟩
                                                      · rw [if_neg c31] at H
                                                        have c31b0 : (a0 == 26) = false := beq_eq_false_iff_ne.mpr c31
                                                        have c31b1 : (a0 != 26) = true := bne_iff_ne.mpr c31
                                                        by_cases c34 : a0 = 27
                                                        · rw [if_pos c34] at H
                                                          have c34b0 : (a0 == 27) = true := beq_iff_eq.mpr c34
                                                          have c34b1 : (a0 != 27) = false := bne_eq_false_iff_eq.mpr c34
                                                          clear c34
                                                          replace H := Option.bind_eq_some_iff.mp H
                                                          obtain ⟨t109, A350, H⟩ := H
                                                          replace H : (some t109) = some r := H
                                                          have A35 := Aside0.mk A350
                                                          clear A350
                                                          obtain rfl := Option.some.inj H
                                                          go_enter Tryd.func5, Tryd.ntmps5
                                                          go_wp2_with (first | ((with_reducible refine gate_callee (f := 37) rfl ?_); refine goesL_ (some 119) rfl rfl Tryd.func37 (by kernel_rfl) rfl #[.int .i64 a1] rfl (by (try simp only [List.map_toArray, List.map_cons, List.map_nil]); first | done | rfl | (simp only [List.length_drop, List.length_take]; rfl)) ?_; (with_reducible refine (xansi_PopKittyKeyboard.calls a1 t109 _ ?side1 A35.out).mono ?_); (case side1 => exact XTab.below HT.out (by repeat (first | (with_reducible first | exact HB.out | apply below_alloc | apply pw_below_drewN | apply below_drew1) | exact HB.out))); rintro e w36 ⟨rfl, hb⟩; refine ⟨_, rfl, ?_⟩; have n0_ := Aside0.mk (below_step (by repeat (first | (with_reducible first | exact HB.out | apply below_alloc | apply pw_below_drewN | apply below_drew1) | exact HB.out)) hb); clear HB; have HB := n0_; clear n0_; (try clear hb); (try clear hb2); (try clear hk); (try clear hi)))
                                                          go_ret
                                                          exact ⟨by first | rfl | (simp [errW_none, errW_some] <;> rfl) | (simp [*, errW_none, errW_some] <;> rfl), by repeat (first | (with_reducible first | exact HB.out | apply below_alloc | apply pw_below_drewN | apply below_drew1) | exact HB.out)⟩
                                                        · rw [if_neg c34] at H
                                                          have c34b0 : (a0 == 27) = false := beq_eq_false_iff_ne.mpr c34
                                                          have c34b1 : (a0 != 27) = true := bne_iff_ne.mpr c34
                                                          by_cases c37 : a0 = 28
                                                          · rw [if_pos c37] at H
                                                            exact absurd H (by simp)
                                                          · rw [if_neg c37] at H
                                                            have c37b0 : (a0 == 28) = false := beq_eq_false_iff_ne.mpr c37
                                                            have c37b1 : (a0 != 28) = true := bne_iff_ne.mpr c37
                                                            by_cases c38 : a0 = 29
                                                            · rw [if_pos c38] at H
                                                              exact absurd H (by simp)
                                                            · rw [if_neg c38] at H
                                                              have c38b0 : (a0 == 29) = false := beq_eq_false_iff_ne.mpr c38
                                                              have c38b1 : (a0 != 29) = true := bne_iff_ne.mpr c38
                                                              by_cases c39 : a0 = 30
                                                              · rw [if_pos c39] at H
                                                                exact absurd H (by simp)
                                                              · rw [if_neg c39] at H
                                                                have c39b0 : (a0 == 30) = false := beq_eq_false_iff_ne.mpr c39
                                                                have c39b1 : (a0 != 30) = true := bne_iff_ne.mpr c39
                                                                by_cases c40 : a0 = 31
                                                                · rw [if_pos c40] at H
                                                                  have c40b0 : (a0 == 31) = true := beq_iff_eq.mpr c40
                                                                  have c40b1 : (a0 != 31) = false := bne_eq_false_iff_eq.mpr c40
                                                                  clear c40
                                                                  replace H := Option.bind_eq_some_iff.mp H
                                                                  obtain ⟨t110, A410, H⟩ := H
                                                                  replace H : (some t110) = some r := H
                                                                  have A41 := Aside0.mk A410
                                                                  clear A410
                                                                  obtain rfl := Option.some.inj H
                                                                  go_enter Tryd.func5, Tryd.ntmps5
                                                                  go_wp2_with (first | ((with_reducible refine gate_callee (f := 41) rfl ?_); refine goesL_ (some 135) rfl rfl Tryd.func41 (by kernel_rfl) rfl #[.int .i64 a1] rfl (by (try simp only [List.map_toArray, List.map_cons, List.map_nil]); first | done | rfl | (simp only [List.length_drop, List.length_take]; rfl)) ?_; (with_reducible refine (xansi_SetProgressBar.calls a1 t110 _ ?side1 A41.out).mono ?_); (case side1 => exact XTab.below HT.out (by repeat (first | (with_reducible first | exact HB.out | apply below_alloc | apply pw_below_drewN | apply below_drew1) | exact HB.out))); rintro e w42 ⟨rfl, hb⟩; refine ⟨_, rfl, ?_⟩; have n0_ := Aside0.mk (below_step (by repeat (first | (with_reducible first | exact HB.out | apply below_alloc | apply pw_below_drewN | apply below_drew1) | exact HB.out)) hb); clear HB; have HB := n0_; clear n0_; (try clear hb); (try clear hb2); (try clear hk); (try clear hi)))
                                                                  go_ret
                                                                  exact ⟨by first | rfl | (simp [errW_none, errW_some] <;> rfl) | (simp [*, errW_none, errW_some] <;> rfl), by repeat (first | (with_reducible first | exact HB.out | apply below_alloc | apply pw_below_drewN | apply below_drew1) | exact HB.out)⟩
                                                                · rw [if_neg c40] at H
                                                                  have c40b0 : (a0 == 31) = false := beq_eq_false_iff_ne.mpr c40
                                                                  have c40b1 : (a0 != 31) = true := bne_iff_ne.mpr c40
                                                                  by_cases c43 : a0 = 32
                                                                  · rw [if_pos c43] at H
                                                                    have c43b0 : (a0 == 32) = true := beq_iff_eq.mpr c43
                                                                    have c43b1 : (a0 != 32) = false := bne_eq_false_iff_eq.mpr c43
                                                                    clear c43
                                                                    replace H := Option.bind_eq_some_iff.mp H
                                                                    obtain ⟨t111, A440, H⟩ := H
                                                                    replace H : (some t111) = some r := H
                                                                    have A44 := Aside0.mk A440
                                                                    clear A440
                                                                    obtain rfl := Option.some.inj H
                                                                    go_enter Tryd.func5, Tryd.ntmps5
                                                                    go_wp2_with (first | ((with_reducible refine gate_callee (f := 42) rfl ?_); refine goesL_ (some 139) rfl rfl Tryd.func42 (by kernel_rfl) rfl #[.int .i64 a1] rfl (by (try simp only [List.map_toArray, List.map_cons, List.map_nil]); first | done | rfl | (simp only [List.length_drop, List.length_take]; rfl)) ?_; (with_reducible refine (xansi_SetErrorProgressBar.calls a1 t111 _ ?side1 A44.out).mono ?_); (case side1 => exact XTab.below HT.out (by repeat (first | (with_reducible first | exact HB.out | apply below_alloc | apply pw_below_drewN | apply below_drew1) | exact HB.out))); rintro e w45 ⟨rfl, hb⟩; refine ⟨_, rfl, ?_⟩; have n0_ := Aside0.mk (below_step (by repeat (first | (with_reducible first | exact HB.out | apply below_alloc | apply pw_below_drewN | apply below_drew1) | exact HB.out)) hb); clear HB; have HB := n0_; clear n0_; (try clear hb); (try clear hb2); (try clear hk); (try clear hi)))
                                                                    go_ret
                                                                    exact ⟨by first | rfl | (simp [errW_none, errW_some] <;> rfl) | (simp [*, errW_none, errW_some] <;> rfl), by repeat (first | (with_reducible first | exact HB.out | apply below_alloc | apply pw_below_drewN | apply below_drew1) | exact HB.out)⟩
                                                                  · rw [if_neg c43] at H
                                                                    have c43b0 : (a0 == 32) = false := beq_eq_false_iff_ne.mpr c43
                                                                    have c43b1 : (a0 != 32) = true := bne_iff_ne.mpr c43
                                                                    by_cases c46 : a0 = 33
                                                                    · rw [if_pos c46] at H
                                                                      have c46b0 : (a0 == 33) = true := beq_iff_eq.mpr c46
                                                                      have c46b1 : (a0 != 33) = false := bne_eq_false_iff_eq.mpr c46
                                                                      clear c46
                                                                      replace H := Option.bind_eq_some_iff.mp H
                                                                      obtain ⟨t112, A470, H⟩ := H
                                                                      replace H : (some t112) = some r := H
                                                                      have A47 := Aside0.mk A470
                                                                      clear A470
                                                                      obtain rfl := Option.some.inj H
                                                                      go_enter Tryd.func5, Tryd.ntmps5
                                                                      go_wp2_with (first | ((with_reducible refine gate_callee (f := 43) rfl ?_); refine goesL_ (some 143) rfl rfl Tryd.func43 (by kernel_rfl) rfl #[.int .i64 a1] rfl (by (try simp only [List.map_toArray, List.map_cons, List.map_nil]); first | done | rfl | (simp only [List.length_drop, List.length_take]; rfl)) ?_; (with_reducible refine (xansi_SetWarningProgressBar.calls a1 t112 _ ?side1 A47.out).mono ?_); (case side1 => exact XTab.below HT.out (by repeat (first | (with_reducible first | exact HB.out | apply below_alloc | apply pw_below_drewN | apply below_drew1) | exact HB.out))); rintro e w48 ⟨rfl, hb⟩; refine ⟨_, rfl, ?_⟩; have n0_ := Aside0.mk (below_step (by repeat (first | (with_reducible first | exact HB.out | apply below_alloc | apply pw_below_drewN | apply below_drew1) | exact HB.out)) hb); clear HB; have HB := n0_; clear n0_; (try clear hb); (try clear hb2); (try clear hk); (try clear hi)))
                                                                      go_ret
                                                                      exact ⟨by first | rfl | (simp [errW_none, errW_some] <;> rfl) | (simp [*, errW_none, errW_some] <;> rfl), by repeat (first | (with_reducible first | exact HB.out | apply below_alloc | apply pw_below_drewN | apply below_drew1) | exact HB.out)⟩
                                                                    · rw [if_neg c46] at H
                                                                      have c46b0 : (a0 == 33) = false := beq_eq_false_iff_ne.mpr c46
                                                                      have c46b1 : (a0 != 33) = true := bne_iff_ne.mpr c46
                                                                      obtain rfl := Option.some.inj H
                                                                      go_enter Tryd.func5, Tryd.ntmps5
                                                                      go_wp2
                                                                      go_ret
                                                                      exact ⟨by first | rfl | (simp [errW_none, errW_some] <;> rfl) | (simp [*, errW_none, errW_some] <;> rfl), by repeat (first | (with_reducible first | exact HB.out | apply below_alloc | apply pw_below_drewN | apply below_drew1) | exact HB.out)⟩
end Go.Proofs.YtkklhlakklcnbaaDoor.Y
end
section
namespace Go.Proofs.YtkklhlakklcnbaaDoor.Y
open Go.RowKit Go.Proofs.YtkklhlakklcnbaaDoorW.PrintWords Go.Proofs.YtkklhlakklcnbaaDoorW.PrintLast Go.Proofs.YtkklhlakklcnbaaDoorW.PrintMore
attribute [local go_sem] max2_int min2_int max_two min_two max_three min_three max_four min_four   -- for this text's walks alone
set_option linter.unusedVariables false
set_option linter.unusedSimpArgs false
set_option maxHeartbeats 8000000 in
set_option maxRecDepth 100000 in
theorem laws_drawAwake.calls  (r : Bool) (w : World) (hT : XTab w) (h : laws_drawAwake.f  = some r) :
    Calls Tryd.prog 4 #[] w fun e w' => e = .returned (.bool r) ∧ Below w.heap.size w w' := by
  have HT := Aside0.mk hT
  clear hT
  have HB := Aside0.mk (Below.refl w.heap.size w)
  have H : ((impl_MakeNumber.f 0 3).bind fun t113 => ((gosem_conv.f t113).bind fun t114 => ((impl_Feed.f 32 4096 t114).bind fun t117 => (if (t117.length : Int) = 1 then (if 0 < (t117.length : Int) then (if ((rd_T30 t117 0).f0) = 2 then (some (((rd_T30 t117 0).f3) == 65)) else (some false)) else (none)) else (some false))))) = some r := h
  clear h
  replace H := Option.bind_eq_some_iff.mp H
  obtain ⟨t113, A10, H⟩ := H
  replace H : ((gosem_conv.f t113).bind fun t114 => ((impl_Feed.f 32 4096 t114).bind fun t117 => (if (t117.length : Int) = 1 then (if 0 < (t117.length : Int) then (if ((rd_T30 t117 0).f0) = 2 then (some (((rd_T30 t117 0).f3) == 65)) else (some false)) else (none)) else (some false)))) = some r := H
  have A1 := Aside0.mk A10
  clear A10
  replace H := Option.bind_eq_some_iff.mp H
  obtain ⟨t114, A20, H⟩ := H
  replace H : ((impl_Feed.f 32 4096 t114).bind fun t117 => (if (t117.length : Int) = 1 then (if 0 < (t117.length : Int) then (if ((rd_T30 t117 0).f0) = 2 then (some (((rd_T30 t117 0).f3) == 65)) else (some false)) else (none)) else (some false))) = some r := H
  have A2 := Aside0.mk A20
  clear A20
  replace H := Option.bind_eq_some_iff.mp H
  obtain ⟨t117, A30, H⟩ := H
  replace H : (if (t117.length : Int) = 1 then (if 0 < (t117.length : Int) then (if ((rd_T30 t117 0).f0) = 2 then (some (((rd_T30 t117 0).f3) == 65)) else (some false)) else (none)) else (some false)) = some r := H
  have A3 := Aside0.mk A30
  clear A30
  by_cases c4 : (t117.length : Int) = 1
  · rw [if_pos c4] at H
    have c4b0 : ((t117.length : Int) == 1) = true := beq_iff_eq.mpr c4
    have c4b1 : ((t117.length : Int) != 1) = false := bne_eq_false_iff_eq.mpr c4
    clear c4
    by_cases c5 : 0 < (t117.length : Int)
    · rw [if_pos c5] at H
      have c5b0 : decide (0 < (t117.length : Int)) = true := decide_eq_true c5
      have c5b1 : decide (0 < t117.length) = true := decide_eq_true (by omega)
      clear c5
      by_cases c6 : ((rd_T30 t117 0).f0) = 2
      · rw [if_pos c6] at H
        have c6b0 : (((rd_T30 t117 0).f0) == 2) = true := beq_iff_eq.mpr c6
        have c6b1 : (((rd_T30 t117 0).f0) != 2) = false := bne_eq_false_iff_eq.mpr c6
        clear c6
        obtain rfl := Option.some.inj H
        go_enter Tryd.func4, Tryd.ntmps4
        go_wp2_with (first | ((with_reducible refine gate_callee (f := 5) rfl ?_); refine goesL_ (some 2) rfl rfl Tryd.func5 (by kernel_rfl) rfl #[.int .i64 0, .int .i64 3] rfl (by (try simp only [List.map_toArray, List.map_cons, List.map_nil]); first | done | rfl | (simp only [List.length_drop, List.length_take]; rfl)) ?_; (with_reducible refine (impl_MakeNumber.calls 0 3 t113 _ ?side1 A1.out).mono ?_); (case side1 => exact XTab.below HT.out (by repeat (first | (with_reducible first | exact HB.out | apply below_alloc | apply pw_below_drewN | apply below_drew1) | exact HB.out))); rintro e w7 ⟨rfl, hb⟩; refine ⟨_, rfl, ?_⟩; have n0_ := Aside0.mk (below_step (by repeat (first | (with_reducible first | exact HB.out | apply below_alloc | apply pw_below_drewN | apply below_drew1) | exact HB.out)) hb); clear HB; have HB := n0_; clear n0_; (try clear hb); (try clear hb2); (try clear hk); (try clear hi)) | ((with_reducible refine gate_dst (N := 3) rfl ?_); refine conv_ev 9 28 5 rfl rfl Tryd.underlying9 Tryd.underlying28 Tryd.underlying5 t113 rfl A2.out ?_; rintro e w8 ⟨v115, rfl, ho0, hb⟩; refine ⟨_, rfl, ?_⟩; have n0_ := Aside0.mk (Kd.V_lower (Kd.V_mono (ok' := fun k_ => True) ho0 (fun k_ hk_ => trivial)) (below_size (by repeat (first | (with_reducible first | exact HB.out | apply below_alloc | apply pw_below_drewN | apply below_drew1) | exact HB.out)))); have n1_ := Aside0.mk (below_step (by repeat (first | (with_reducible first | exact HB.out | apply below_alloc | apply pw_below_drewN | apply below_drew1) | exact HB.out)) hb); clear HB; have HO116 := n0_; have HB := n1_; clear n0_ n1_; (try clear hb); (try clear hb2); (try clear hk); (try clear hi); (try clear ho0); obtain ⟨Ao9, co9, eo9⟩ := Kd.V_slice HO116.out; subst eo9) | ((with_reducible refine gate_callee (f := 6) rfl ?_); refine goesL_ (some 4) rfl rfl Tryd.func6 (by kernel_rfl) rfl #[.int .i64 32, .int .i64 4096, .slice Ao9 t114.length co9] rfl (by (try simp only [List.map_toArray, List.map_cons, List.map_nil]); first | done | rfl | (simp only [List.length_drop, List.length_take]; rfl)) ?_; (with_reducible refine (impl_Feed.calls 32 4096 _ _ t114 t117 _ ?side1 ?side2 A3.out).mono ?_); (case side1 => repeat (first | exact (Kd.V_reads' HO116.out).2.2 | (with_reducible refine Kd.C_alloc ?_ _) | (with_reducible refine Kd.C_drewN ?_ _) | (with_reducible refine Kd.C_drew ?_))); (case side2 => exact (Kd.V_reads' HO116.out).2.1); rintro e w10 ⟨v118, rfl, ho0, hb⟩; refine ⟨_, rfl, ?_⟩; have n0_ := Aside0.mk (Kd.V_elder' (by (with_reducible repeat (first | apply Kd.V_alloc | apply Kd.V_drewN | apply Kd.V_drew)); exact HO116.out) (Kd.S_base ho0) hb); have n1_ := Aside0.mk (Kd.S_lower ho0 (below_size (by repeat (first | (with_reducible first | exact HB.out | apply below_alloc | apply pw_below_drewN | apply below_drew1) | exact HB.out)))); have n2_ := Aside0.mk (below_step (by repeat (first | (with_reducible first | exact HB.out | apply below_alloc | apply pw_below_drewN | apply below_drew1) | exact HB.out)) hb); clear HO116; clear HB; have HO116 := n0_; have HO119 := n1_; have HB := n2_; clear n0_ n1_ n2_; (try clear hb); (try clear hb2); (try clear hk); (try clear hi); (try clear ho0); obtain ⟨Ao11, co11, eo11⟩ := Kd.S_slice HO119.out; subst eo11; have p120 : 0 ≤ (0 : Int) := (by omega); have q120 : 0 < (t117.length : Int) := of_decide_eq_true (by first | (with_reducible assumption) | assumption); obtain ⟨ad120, A120_4, c120_4, A120_5, c120_5, e120, hx120_0, hx120_1, hx120_2, hx120_3, hx120_4, hx120_5, hl120_4, hi120_4, hl120_5, hi120_5⟩ := at_T30 (Kd.S_reads' HO119.out).2.2 0 p120 q120; cases e120; obtain ⟨ce120, hce120, hMe120, hcc120⟩ := Kd.S_get HO119.out z30 0 p120 (by first | exact q120 | exact of_decide_eq_true (by first | (with_reducible assumption) | assumption) | (have e_ := (Kd.S_reads' HO119.out).1; omega)); obtain ⟨ve120_4, ve120_5, rfl, ge120_4, ge120_5⟩ := k30_openM hMe120; have hv120_4 := hcc120 4 _ rfl; rw [add_field _ _ 4 (by omega)] at hv120_4; replace hv120_4 := Option.some.inj (hv120_4.symm.trans hx120_4); rw [hv120_4] at ge120_4; have HL120_4 := Aside0.mk (show Kd.R (Kd.int .i64) 2 _ _ _ _ ((rd_T30 t117 0).f4) from ge120_4); clear hv120_4 ge120_4; have hv120_5 := hcc120 5 _ rfl; rw [add_field _ _ 5 (by omega)] at hv120_5; replace hv120_5 := Option.some.inj (hv120_5.symm.trans hx120_5); rw [hv120_5] at ge120_5; have HL120_5 := Aside0.mk (show Kd.R (Kd.int .u8) 5 _ _ _ _ ((rd_T30 t117 0).f5) from ge120_5); clear hv120_5 ge120_5; clear hcc120 hce120; have qi120 : (0 < t117.length) = True := eq_true (by omega); (try rw [show ((0 : Int)).toNat = 0 from rfl] at hx120_0); (try rw [show 0 * 6 = 0 from rfl] at hx120_0); (try rw [Addr.add_zero'] at hx120_0); (try rw [show ((0 : Int)).toNat = 0 from rfl] at hx120_1); (try rw [show 0 * 6 = 0 from rfl] at hx120_1); (try rw [Addr.add_zero'] at hx120_1); (try rw [show ((0 : Int)).toNat = 0 from rfl] at hx120_2); (try rw [show 0 * 6 = 0 from rfl] at hx120_2); (try rw [Addr.add_zero'] at hx120_2); (try rw [show ((0 : Int)).toNat = 0 from rfl] at hx120_3); (try rw [show 0 * 6 = 0 from rfl] at hx120_3); (try rw [Addr.add_zero'] at hx120_3); (try rw [show ((0 : Int)).toNat = 0 from rfl] at hx120_4); (try rw [show 0 * 6 = 0 from rfl] at hx120_4); (try rw [Addr.add_zero'] at hx120_4); (try rw [show ((0 : Int)).toNat = 0 from rfl] at hx120_5); (try rw [show 0 * 6 = 0 from rfl] at hx120_5); (try rw [Addr.add_zero'] at hx120_5); have HR120_4 := Aside0.mk hi120_4; have HC120_4 := Aside0.mk hl120_4; clear hi120_4 hl120_4; have HR120_5 := Aside0.mk hi120_5; have HC120_5 := Aside0.mk hl120_5; clear hi120_5 hl120_5; replace p120 := eq_true p120; replace q120 := eq_true q120; have p121 : 0 ≤ (0 : Int) := (by omega); have q121 : 0 < (t117.length : Int) := of_decide_eq_true (by first | (with_reducible assumption) | assumption); obtain ⟨ad121, A121_4, c121_4, A121_5, c121_5, e121, hx121_0, hx121_1, hx121_2, hx121_3, hx121_4, hx121_5, hl121_4, hi121_4, hl121_5, hi121_5⟩ := at_T30 (Kd.S_reads' HO119.out).2.2 0 p121 q121; obtain rfl : ad120 = ad121 := (by injection e121); obtain ⟨ce121, hce121, hMe121, hcc121⟩ := Kd.S_get HO119.out z30 0 p121 (by first | exact q121 | exact of_decide_eq_true (by first | (with_reducible assumption) | assumption) | (have e_ := (Kd.S_reads' HO119.out).1; omega)); obtain ⟨ve121_4, ve121_5, rfl, ge121_4, ge121_5⟩ := k30_openM hMe121; have hv121_4 := hcc121 4 _ rfl; rw [add_field _ _ 4 (by omega)] at hv121_4; replace hv121_4 := Option.some.inj (hv121_4.symm.trans hx121_4); rw [hv121_4] at ge121_4; have HL121_4 := Aside0.mk (show Kd.R (Kd.int .i64) 2 _ _ _ _ ((rd_T30 t117 0).f4) from ge121_4); clear hv121_4 ge121_4; have hv121_5 := hcc121 5 _ rfl; rw [add_field _ _ 5 (by omega)] at hv121_5; replace hv121_5 := Option.some.inj (hv121_5.symm.trans hx121_5); rw [hv121_5] at ge121_5; have HL121_5 := Aside0.mk (show Kd.R (Kd.int .u8) 5 _ _ _ _ ((rd_T30 t117 0).f5) from ge121_5); clear hv121_5 ge121_5; clear hcc121 hce121; have qi121 : (0 < t117.length) = True := eq_true (by omega); (try rw [show ((0 : Int)).toNat = 0 from rfl] at hx121_0); (try rw [show 0 * 6 = 0 from rfl] at hx121_0); (try rw [Addr.add_zero'] at hx121_0); (try rw [show ((0 : Int)).toNat = 0 from rfl] at hx121_1); (try rw [show 0 * 6 = 0 from rfl] at hx121_1); (try rw [Addr.add_zero'] at hx121_1); (try rw [show ((0 : Int)).toNat = 0 from rfl] at hx121_2); (try rw [show 0 * 6 = 0 from rfl] at hx121_2); (try rw [Addr.add_zero'] at hx121_2); (try rw [show ((0 : Int)).toNat = 0 from rfl] at hx121_3); (try rw [show 0 * 6 = 0 from rfl] at hx121_3); (try rw [Addr.add_zero'] at hx121_3); (try rw [show ((0 : Int)).toNat = 0 from rfl] at hx121_4); (try rw [show 0 * 6 = 0 from rfl] at hx121_4); (try rw [Addr.add_zero'] at hx121_4); (try rw [show ((0 : Int)).toNat = 0 from rfl] at hx121_5); (try rw [show 0 * 6 = 0 from rfl] at hx121_5); (try rw [Addr.add_zero'] at hx121_5); have HR121_4 := Aside0.mk hi121_4; have HC121_4 := Aside0.mk hl121_4; clear hi121_4 hl121_4; have HR121_5 := Aside0.mk hi121_5; have HC121_5 := Aside0.mk hl121_5; clear hi121_5 hl121_5; replace p121 := eq_true p121; replace q121 := eq_true q121; have ea_ := Option.some.inj (hx120_4.symm.trans hx121_4); injection ea_ with ea_ en_ ec_; subst ea_; subst ec_; clear en_; have ea_ := Option.some.inj (hx120_5.symm.trans hx121_5); injection ea_ with ea_ en_ ec_; subst ea_; subst ec_; clear en_))
        go_ret
        exact ⟨by first | rfl | (simp [errW_none, errW_some] <;> rfl) | (simp [*, errW_none, errW_some] <;> rfl), by repeat (first | (with_reducible first | exact HB.out | apply below_alloc | apply pw_below_drewN | apply below_drew1) | exact HB.out)⟩
      · rw [if_neg c6] at H
        have c6b0 : (((rd_T30 t117 0).f0) == 2) = false := beq_eq_false_iff_ne.mpr c6
        have c6b1 : (((rd_T30 t117 0).f0) != 2) = true := bne_iff_ne.mpr c6
        obtain rfl := Option.some.inj H
        go_enter Tryd.func4, Tryd.ntmps4
        go_wp2_with (first | ((with_reducible refine gate_callee (f := 5) rfl ?_); refine goesL_ (some 2) rfl rfl Tryd.func5 (by kernel_rfl) rfl #[.int .i64 0, .int .i64 3] rfl (by (try simp only [List.map_toArray, List.map_cons, List.map_nil]); first | done | rfl | (simp only [List.length_drop, List.length_take]; rfl)) ?_; (with_reducible refine (impl_MakeNumber.calls 0 3 t113 _ ?side1 A1.out).mono ?_); (case side1 => exact XTab.below HT.out (by repeat (first | (with_reducible first | exact HB.out | apply below_alloc | apply pw_below_drewN | apply below_drew1) | exact HB.out))); rintro e w12 ⟨rfl, hb⟩; refine ⟨_, rfl, ?_⟩; have n0_ := Aside0.mk (below_step (by repeat (first | (with_reducible first | exact HB.out | apply below_alloc | apply pw_below_drewN | apply below_drew1) | exact HB.out)) hb); clear HB; have HB := n0_; clear n0_; (try clear hb); (try clear hb2); (try clear hk); (try clear hi)) | ((with_reducible refine gate_dst (N := 3) rfl ?_); refine conv_ev 9 28 5 rfl rfl Tryd.underlying9 Tryd.underlying28 Tryd.underlying5 t113 rfl A2.out ?_; rintro e w13 ⟨v115, rfl, ho0, hb⟩; refine ⟨_, rfl, ?_⟩; have n0_ := Aside0.mk (Kd.V_lower (Kd.V_mono (ok' := fun k_ => True) ho0 (fun k_ hk_ => trivial)) (below_size (by repeat (first | (with_reducible first | exact HB.out | apply below_alloc | apply pw_below_drewN | apply below_drew1) | exact HB.out)))); have n1_ := Aside0.mk (below_step (by repeat (first | (with_reducible first | exact HB.out | apply below_alloc | apply pw_below_drewN | apply below_drew1) | exact HB.out)) hb); clear HB; have HO116 := n0_; have HB := n1_; clear n0_ n1_; (try clear hb); (try clear hb2); (try clear hk); (try clear hi); (try clear ho0); obtain ⟨Ao14, co14, eo14⟩ := Kd.V_slice HO116.out; subst eo14) | ((with_reducible refine gate_callee (f := 6) rfl ?_); refine goesL_ (some 4) rfl rfl Tryd.func6 (by kernel_rfl) rfl #[.int .i64 32, .int .i64 4096, .slice Ao14 t114.length co14] rfl (by (try simp only [List.map_toArray, List.map_cons, List.map_nil]); first | done | rfl | (simp only [List.length_drop, List.length_take]; rfl)) ?_; (with_reducible refine (impl_Feed.calls 32 4096 _ _ t114 t117 _ ?side1 ?side2 A3.out).mono ?_); (case side1 => repeat (first | exact (Kd.V_reads' HO116.out).2.2 | (with_reducible refine Kd.C_alloc ?_ _) | (with_reducible refine Kd.C_drewN ?_ _) | (with_reducible refine Kd.C_drew ?_))); (case side2 => exact (Kd.V_reads' HO116.out).2.1); rintro e w15 ⟨v118, rfl, ho0, hb⟩; refine ⟨_, rfl, ?_⟩; have n0_ := Aside0.mk (Kd.V_elder' (by (with_reducible repeat (first | apply Kd.V_alloc | apply Kd.V_drewN | apply Kd.V_drew)); exact HO116.out) (Kd.S_base ho0) hb); have n1_ := Aside0.mk (Kd.S_lower ho0 (below_size (by repeat (first | (with_reducible first | exact HB.out | apply below_alloc | apply pw_below_drewN | apply below_drew1) | exact HB.out)))); have n2_ := Aside0.mk (below_step (by repeat (first | (with_reducible first | exact HB.out | apply below_alloc | apply pw_below_drewN | apply below_drew1) | exact HB.out)) hb); clear HO116; clear HB; have HO116 := n0_; have HO119 := n1_; have HB := n2_; clear n0_ n1_ n2_; (try clear hb); (try clear hb2); (try clear hk); (try clear hi); (try clear ho0); obtain ⟨Ao16, co16, eo16⟩ := Kd.S_slice HO119.out; subst eo16; have p120 : 0 ≤ (0 : Int) := (by omega); have q120 : 0 < (t117.length : Int) := of_decide_eq_true (by first | (with_reducible assumption) | assumption); obtain ⟨ad120, A120_4, c120_4, A120_5, c120_5, e120, hx120_0, hx120_1, hx120_2, hx120_3, hx120_4, hx120_5, hl120_4, hi120_4, hl120_5, hi120_5⟩ := at_T30 (Kd.S_reads' HO119.out).2.2 0 p120 q120; cases e120; obtain ⟨ce120, hce120, hMe120, hcc120⟩ := Kd.S_get HO119.out z30 0 p120 (by first | exact q120 | exact of_decide_eq_true (by first | (with_reducible assumption) | assumption) | (have e_ := (Kd.S_reads' HO119.out).1; omega)); obtain ⟨ve120_4, ve120_5, rfl, ge120_4, ge120_5⟩ := k30_openM hMe120; have hv120_4 := hcc120 4 _ rfl; rw [add_field _ _ 4 (by omega)] at hv120_4; replace hv120_4 := Option.some.inj (hv120_4.symm.trans hx120_4); rw [hv120_4] at ge120_4; have HL120_4 := Aside0.mk (show Kd.R (Kd.int .i64) 2 _ _ _ _ ((rd_T30 t117 0).f4) from ge120_4); clear hv120_4 ge120_4; have hv120_5 := hcc120 5 _ rfl; rw [add_field _ _ 5 (by omega)] at hv120_5; replace hv120_5 := Option.some.inj (hv120_5.symm.trans hx120_5); rw [hv120_5] at ge120_5; have HL120_5 := Aside0.mk (show Kd.R (Kd.int .u8) 5 _ _ _ _ ((rd_T30 t117 0).f5) from ge120_5); clear hv120_5 ge120_5; clear hcc120 hce120; have qi120 : (0 < t117.length) = True := eq_true (by omega); (try rw [show ((0 : Int)).toNat = 0 from rfl] at hx120_0); (try rw [show 0 * 6 = 0 from rfl] at hx120_0); (try rw [Addr.add_zero'] at hx120_0); (try rw [show ((0 : Int)).toNat = 0 from rfl] at hx120_1); (try rw [show 0 * 6 = 0 from rfl] at hx120_1); (try rw [Addr.add_zero'] at hx120_1); (try rw [show ((0 : Int)).toNat = 0 from rfl] at hx120_2); (try rw [show 0 * 6 = 0 from rfl] at hx120_2); (try rw [Addr.add_zero'] at hx120_2); (try rw [show ((0 : Int)).toNat = 0 from rfl] at hx120_3); (try rw [show 0 * 6 = 0 from rfl] at hx120_3); (try rw [Addr.add_zero'] at hx120_3); (try rw [show ((0 : Int)).toNat = 0 from rfl] at hx120_4); (try rw [show 0 * 6 = 0 from rfl] at hx120_4); (try rw [Addr.add_zero'] at hx120_4); (try rw [show ((0 : Int)).toNat = 0 from rfl] at hx120_5); (try rw [show 0 * 6 = 0 from rfl] at hx120_5); (try rw [Addr.add_zero'] at hx120_5); have HR120_4 := Aside0.mk hi120_4; have HC120_4 := Aside0.mk hl120_4; clear hi120_4 hl120_4; have HR120_5 := Aside0.mk hi120_5; have HC120_5 := Aside0.mk hl120_5; clear hi120_5 hl120_5; replace p120 := eq_true p120; replace q120 := eq_true q120))
        go_ret
        exact ⟨by first | rfl | (simp [errW_none, errW_some] <;> rfl) | (simp [*, errW_none, errW_some] <;> rfl), by repeat (first | (with_reducible first | exact HB.out | apply below_alloc | apply pw_below_drewN | apply below_drew1) | exact HB.out)⟩
    · rw [if_neg c5] at H
      exact absurd H (by simp)
  · rw [if_neg c4] at H
    have c4b0 : ((t117.length : Int) == 1) = false := beq_eq_false_iff_ne.mpr c4
    have c4b1 : ((t117.length : Int) != 1) = true := bne_iff_ne.mpr c4
    obtain rfl := Option.some.inj H
    go_enter Tryd.func4, Tryd.ntmps4
    go_wp2_with (first | ((with_reducible refine gate_callee (f := 5) rfl ?_); refine goesL_ (some 2) rfl rfl Tryd.func5 (by kernel_rfl) rfl #[.int .i64 0, .int .i64 3] rfl (by (try simp only [List.map_toArray, List.map_cons, List.map_nil]); first | done | rfl | (simp only [List.length_drop, List.length_take]; rfl)) ?_; (with_reducible refine (impl_MakeNumber.calls 0 3 t113 _ ?side1 A1.out).mono ?_); (case side1 => exact XTab.below HT.out (by repeat (first | (with_reducible first | exact HB.out | apply below_alloc | apply pw_below_drewN | apply below_drew1) | exact HB.out))); rintro e w17 ⟨rfl, hb⟩; refine ⟨_, rfl, ?_⟩; have n0_ := Aside0.mk (below_step (by repeat (first | (with_reducible first | exact HB.out | apply below_alloc | apply pw_below_drewN | apply below_drew1) | exact HB.out)) hb); clear HB; have HB := n0_; clear n0_; (try clear hb); (try clear hb2); (try clear hk); (try clear hi)) | ((with_reducible refine gate_dst (N := 3) rfl ?_); refine conv_ev 9 28 5 rfl rfl Tryd.underlying9 Tryd.underlying28 Tryd.underlying5 t113 rfl A2.out ?_; rintro e w18 ⟨v115, rfl, ho0, hb⟩; refine ⟨_, rfl, ?_⟩; have n0_ := Aside0.mk (Kd.V_lower (Kd.V_mono (ok' := fun k_ => True) ho0 (fun k_ hk_ => trivial)) (below_size (by repeat (first | (with_reducible first | exact HB.out | apply below_alloc | apply pw_below_drewN | apply below_drew1) | exact HB.out)))); have n1_ := Aside0.mk (below_step (by repeat (first | (with_reducible first | exact HB.out | apply below_alloc | apply pw_below_drewN | apply below_drew1) | exact HB.out)) hb); clear HB; have HO116 := n0_; have HB := n1_; clear n0_ n1_; (try clear hb); (try clear hb2); (try clear hk); (try clear hi); (try clear ho0); obtain ⟨Ao19, co19, eo19⟩ := Kd.V_slice HO116.out; subst eo19) | ((with_reducible refine gate_callee (f := 6) rfl ?_); refine goesL_ (some 4) rfl rfl Tryd.func6 (by kernel_rfl) rfl #[.int .i64 32, .int .i64 4096, .slice Ao19 t114.length co19] rfl (by (try simp only [List.map_toArray, List.map_cons, List.map_nil]); first | done | rfl | (simp only [List.length_drop, List.length_take]; rfl)) ?_; (with_reducible refine (impl_Feed.calls 32 4096 _ _ t114 t117 _ ?side1 ?side2 A3.out).mono ?_); (case side1 => repeat (first | exact (Kd.V_reads' HO116.out).2.2 | (with_reducible refine Kd.C_alloc ?_ _) | (with_reducible refine Kd.C_drewN ?_ _) | (with_reducible refine Kd.C_drew ?_))); (case side2 => exact (Kd.V_reads' HO116.out).2.1); rintro e w20 ⟨v118, rfl, ho0, hb⟩; refine ⟨_, rfl, ?_⟩; have n0_ := Aside0.mk (Kd.V_elder' (by (with_reducible repeat (first | apply Kd.V_alloc | apply Kd.V_drewN | apply Kd.V_drew)); exact HO116.out) (Kd.S_base ho0) hb); have n1_ := Aside0.mk (Kd.S_lower ho0 (below_size (by repeat (first | (with_reducible first | exact HB.out | apply below_alloc | apply pw_below_drewN | apply below_drew1) | exact HB.out)))); have n2_ := Aside0.mk (below_step (by repeat (first | (with_reducible first | exact HB.out | apply below_alloc | apply pw_below_drewN | apply below_drew1) | exact HB.out)) hb); clear HO116; clear HB; have HO116 := n0_; have HO119 := n1_; have HB := n2_; clear n0_ n1_ n2_; (try clear hb); (try clear hb2); (try clear hk); (try clear hi); (try clear ho0); obtain ⟨Ao21, co21, eo21⟩ := Kd.S_slice HO119.out; subst eo21))
    go_ret
    exact ⟨by first | rfl | (simp [errW_none, errW_some] <;> rfl) | (simp [*, errW_none, errW_some] <;> rfl), by repeat (first | (with_reducible first | exact HB.out | apply below_alloc | apply pw_below_drewN | apply below_drew1) | exact HB.out)⟩
end Go.Proofs.YtkklhlakklcnbaaDoor.Y
end
section
namespace Go.Proofs.YtkklhlakklcnbaaDoor.Y
open Go.RowKit Go.Proofs.YtkklhlakklcnbaaDoorW.PrintWords Go.Proofs.YtkklhlakklcnbaaDoorW.PrintLast Go.Proofs.YtkklhlakklcnbaaDoorW.PrintMore
attribute [local go_sem] max2_int min2_int max_two min_two max_three min_three max_four min_four   -- for this text's walks alone
set_option linter.unusedVariables false
set_option linter.unusedSimpArgs false
set_option maxHeartbeats 8000000 in
set_option maxRecDepth 100000 in
theorem spec_Value.calls (a0 : Int) (r : Int) (w : World) (h : spec_Value.f a0 = some r) :
    Calls Tryd.prog 76 #[.int .i64 a0] w fun e w' => e = .returned (.int .i64 r) ∧ Drawn0 w w' := by
  have H : (some (Go.bits .and .i64 a0 2147483647)) = some r := h
  clear h
  obtain rfl := Option.some.inj H
  go_enter Tryd.func76, Tryd.ntmps76
  go_wp2
  go_ret
  exact ⟨by first | rfl | (simp; done) | (simp [*]; done), by repeat (first | exact Drawn0.refl _ | apply Drawn0.step)⟩
end Go.Proofs.YtkklhlakklcnbaaDoor.Y
end
section
namespace Go.Proofs.YtkklhlakklcnbaaDoor.Y
open Go.RowKit Go.Proofs.YtkklhlakklcnbaaDoorW.PrintWords Go.Proofs.YtkklhlakklcnbaaDoorW.PrintLast Go.Proofs.YtkklhlakklcnbaaDoorW.PrintMore
attribute [local go_sem] max2_int min2_int max_two min_two max_three min_three max_four min_four   -- for this text's walks alone
set_option linter.unusedVariables false
set_option linter.unusedSimpArgs false
set_option maxHeartbeats 8000000 in
set_option maxRecDepth 100000 in
theorem spec_Or.calls (a0 : Int) (a1 : Int) (r : Int) (w : World) (h : spec_Or.f a0 a1 = some r) :
    Calls Tryd.prog 68 #[.int .i64 a0, .int .i64 a1] w fun e w' => e = .returned (.int .i64 r) ∧ Drawn0 w w' := by
  have H : ((spec_Value.f a0).bind fun t122 => (if t122 = 2147483647 then (some a1) else ((spec_Value.f a0).bind fun t123 => (some t123)))) = some r := h
  clear h
  replace H := Option.bind_eq_some_iff.mp H
  obtain ⟨t122, A30, H⟩ := H
  replace H : (if t122 = 2147483647 then (some a1) else ((spec_Value.f a0).bind fun t123 => (some t123))) = some r := H
  have A3 := Aside0.mk A30
  clear A30
  by_cases c4 : t122 = 2147483647
  · rw [if_pos c4] at H
    have c4b0 : (t122 == 2147483647) = true := beq_iff_eq.mpr c4
    have c4b1 : (t122 != 2147483647) = false := bne_eq_false_iff_eq.mpr c4
    clear c4
    obtain rfl := Option.some.inj H
    go_enter Tryd.func68, Tryd.ntmps68
    go_wp2_with (first | ((with_reducible refine gate_callee (f := 76) rfl ?_); refine goesL_ (some 6) rfl rfl Tryd.func76 (by kernel_rfl) rfl #[.int .i64 a0] rfl (by (try simp only [List.map_toArray, List.map_cons, List.map_nil]); first | done | rfl | (simp only [List.length_drop, List.length_take]; rfl)) ?_; (with_reducible refine (spec_Value.calls a0 t122 _ A3.out).mono ?_); rintro e w' ⟨rfl, ⟨nd, rfl⟩⟩; refine ⟨_, rfl, ?_⟩))
    go_ret
    exact ⟨by first | rfl | (simp; done) | (simp [*]; done), by repeat (first | exact Drawn0.refl _ | apply Drawn0.step)⟩
  · rw [if_neg c4] at H
    have c4b0 : (t122 == 2147483647) = false := beq_eq_false_iff_ne.mpr c4
    have c4b1 : (t122 != 2147483647) = true := bne_iff_ne.mpr c4
    replace H := Option.bind_eq_some_iff.mp H
    obtain ⟨t123, A50, H⟩ := H
    replace H : (some t123) = some r := H
    have A5 := Aside0.mk A50
    clear A50
    obtain rfl := Option.some.inj H
    go_enter Tryd.func68, Tryd.ntmps68
    go_wp2_with (first | ((with_reducible refine gate_callee (f := 76) rfl ?_); refine goesL_ (some 6) rfl rfl Tryd.func76 (by kernel_rfl) rfl #[.int .i64 a0] rfl (by (try simp only [List.map_toArray, List.map_cons, List.map_nil]); first | done | rfl | (simp only [List.length_drop, List.length_take]; rfl)) ?_; (with_reducible refine (spec_Value.calls a0 t122 _ A3.out).mono ?_); rintro e w' ⟨rfl, ⟨nd, rfl⟩⟩; refine ⟨_, rfl, ?_⟩) | ((with_reducible refine gate_callee (f := 76) rfl ?_); refine goesL_ (some 10) rfl rfl Tryd.func76 (by kernel_rfl) rfl #[.int .i64 a0] rfl (by (try simp only [List.map_toArray, List.map_cons, List.map_nil]); first | done | rfl | (simp only [List.length_drop, List.length_take]; rfl)) ?_; (with_reducible refine (spec_Value.calls a0 t123 _ A5.out).mono ?_); rintro e w' ⟨rfl, ⟨nd, rfl⟩⟩; refine ⟨_, rfl, ?_⟩))
    go_ret
    exact ⟨by first | rfl | (simp; done) | (simp [*]; done), by repeat (first | exact Drawn0.refl _ | apply Drawn0.step)⟩
end Go.Proofs.YtkklhlakklcnbaaDoor.Y
end
