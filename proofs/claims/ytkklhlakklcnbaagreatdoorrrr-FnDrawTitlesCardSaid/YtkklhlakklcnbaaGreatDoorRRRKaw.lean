/- Texts of this claim, joined: Y30 Y31 Y32 Y33 Y34 Y35. Of each, what the claim uses. -/
import Derived.Test.YtkklhlakklcnbaaGreatDoorRRRKac
import Derived.Test.YtkklhlakklcnbaaGreatDoorRRRKat
import Derived.Test.YtkklhlakklcnbaaGreatDoorRRRKau
section
namespace Go.Proofs.YtkklhlakklcnbaaGreatDoorRRR.Y
open Go.RowKit Go.Proofs.YtkklhlakklcnbaaGreatDoorRRRW.PrintWords Go.Proofs.YtkklhlakklcnbaaGreatDoorRRRW.PrintLast Go.Proofs.YtkklhlakklcnbaaGreatDoorRRRW.PrintMore
attribute [local go_sem] max2_int min2_int max_two min_two max_three min_three max_four min_four   -- for this text's walks alone
set_option linter.unusedVariables false
set_option linter.unusedSimpArgs false
set_option maxHeartbeats 8000000 in
set_option maxRecDepth 100000 in
theorem spec_DrawWord.calls (k : Nat) (a0 : ByteArray) (a1 : Int) (r : Bool) (w : World) (h : spec_DrawWord.f k a0 a1 = some r) :
    Calls Tryz.prog 33 #[.string a0, .int .i64 a1] w fun e w' => e = .returned (.bool r) ∧ Drawn0 w w' := by
  have H : (spec_DrawWord.l0 k a0 a1 (a0.size : Int) 0) = some r := h
  clear h
  have H' := Aside0.mk H
  clear H
  go_enter Tryz.func33, Tryz.ntmps33
  go_wp2
  go_loopg [10] k (fun kq v10 w' => ∃ (x10_1 : Int), v10 = .int .i64 x10_1 ∧ Aside0 (spec_DrawWord.l0 kq a0 a1 (a0.size : Int) x10_1 = some r) ∧ Aside0 (kq ≤ k) ∧ Drawn0 w w')
  case atStart => exact ⟨(0), (by first | rfl | (simp; done) | (simp [*]; done)), H', ⟨Nat.le_refl _⟩, by repeat (first | exact Drawn0.refl _ | apply Drawn0.step)⟩
  case round =>
    clear H'
    try clear p2
    obtain ⟨x10_1, rfl, HA, HK1, ⟨m1, rfl⟩⟩ := hrel
    cases gk with
    | zero => exact absurd HA.out (by simp [spec_DrawWord.l0])
    | succ k1 =>
      have H := HA.out
      clear HA
      simp only [spec_DrawWord.l0] at H
      by_cases c3 : x10_1 < (a0.size : Int)
      · rw [if_pos c3] at H
        have c3b0 : decide (x10_1 < (a0.size : Int)) = true := decide_eq_true c3
        clear c3
        by_cases c4 : 0 ≤ x10_1
        · rw [if_pos c4] at H
          have c4b0 : decide (0 ≤ x10_1) = true := decide_eq_true c4
          clear c4
          by_cases c5 : x10_1 < (a0.size : Int)
          · rw [if_pos c5] at H
            have c5b0 : decide (x10_1 < (a0.size : Int)) = true := decide_eq_true c5
            clear c5
            by_cases c7 : 97 ≤ (bt a0 x10_1)
            · rw [if_pos c7] at H
              have c7b0 : decide (97 ≤ (bt a0 x10_1)) = true := decide_eq_true c7
              clear c7
              by_cases c8 : (bt a0 x10_1) ≤ 122
              · rw [if_pos c8] at H
                have c8b0 : decide ((bt a0 x10_1) ≤ 122) = true := decide_eq_true c8
                clear c8
                have H' := Aside0.mk H
                clear H
                have p6 : 0 ≤ (x10_1 : Int) := of_decide_eq_true (by first | (with_reducible assumption) | assumption)
                have q6 : x10_1 < (a0.size : Int) := of_decide_eq_true (by first | (with_reducible assumption) | assumption)
                have hx6 := bt_at a0 x10_1
                replace p6 := eq_true p6
                replace q6 := eq_true q6
                go_wp2
                go_roundg k1
                case measure => have := HK1.out; omega
                case rel => exact ⟨(wrap64 (x10_1 + 1)), (by first | rfl | (simp; done) | (simp [*]; done)), H', ⟨by have := HK1.out; omega⟩, by repeat (first | exact Drawn0.refl _ | apply Drawn0.step)⟩
              · rw [if_neg c8] at H
                have c8b0 : decide ((bt a0 x10_1) ≤ 122) = false := decide_eq_false c8
                clear c8
                by_cases c9 : 65 ≤ (bt a0 x10_1)
                · rw [if_pos c9] at H
                  have c9b0 : decide (65 ≤ (bt a0 x10_1)) = true := decide_eq_true c9
                  clear c9
                  by_cases c10 : ((bt a0 x10_1) ≤ 90)
                  · rw [if_pos c10] at H
                    have c10b0 : decide ((bt a0 x10_1) ≤ 90) = true := decide_eq_true c10
                    clear c10
                    have H' := Aside0.mk H
                    clear H
                    have p6 : 0 ≤ (x10_1 : Int) := of_decide_eq_true (by first | (with_reducible assumption) | assumption)
                    have q6 : x10_1 < (a0.size : Int) := of_decide_eq_true (by first | (with_reducible assumption) | assumption)
                    have hx6 := bt_at a0 x10_1
                    replace p6 := eq_true p6
                    replace q6 := eq_true q6
                    go_wp2
                    go_roundg k1
                    case measure => have := HK1.out; omega
                    case rel => exact ⟨(wrap64 (x10_1 + 1)), (by first | rfl | (simp; done) | (simp [*]; done)), H', ⟨by have := HK1.out; omega⟩, by repeat (first | exact Drawn0.refl _ | apply Drawn0.step)⟩
                  · rw [if_neg c10] at H
                    have c10b0 : decide ((bt a0 x10_1) ≤ 90) = false := decide_eq_false c10
                    clear c10
                    by_cases c11 : x10_1 = 0
                    · rw [if_pos c11] at H
                      have c11b0 : (x10_1 == 0) = true := beq_iff_eq.mpr c11
                      have c11b1 : (x10_1 != 0) = false := bne_eq_false_iff_eq.mpr c11
                      clear c11
                      obtain rfl := Option.some.inj H
                      have p6 : 0 ≤ (x10_1 : Int) := of_decide_eq_true (by first | (with_reducible assumption) | assumption)
                      have q6 : x10_1 < (a0.size : Int) := of_decide_eq_true (by first | (with_reducible assumption) | assumption)
                      have hx6 := bt_at a0 x10_1
                      replace p6 := eq_true p6
                      replace q6 := eq_true q6
                      go_wp2
                      go_ret
                      exact ⟨by first | rfl | (simp; done) | (simp [*]; done), by repeat (first | exact Drawn0.refl _ | apply Drawn0.step)⟩
                    · rw [if_neg c11] at H
                      have c11b0 : (x10_1 == 0) = false := beq_eq_false_iff_ne.mpr c11
                      have c11b1 : (x10_1 != 0) = true := bne_iff_ne.mpr c11
                      by_cases c12 : (bt a0 x10_1) < 48
                      · rw [if_pos c12] at H
                        have c12b0 : decide ((bt a0 x10_1) < 48) = true := decide_eq_true c12
                        clear c12
                        by_cases c13 : (bt a0 x10_1) = 32
                        · rw [if_pos c13] at H
                          have c13b0 : ((bt a0 x10_1) == 32) = true := beq_iff_eq.mpr c13
                          have c13b1 : ((bt a0 x10_1) != 32) = false := bne_eq_false_iff_eq.mpr c13
                          clear c13
                          have H' := Aside0.mk H
                          clear H
                          have p6 : 0 ≤ (x10_1 : Int) := of_decide_eq_true (by first | (with_reducible assumption) | assumption)
                          have q6 : x10_1 < (a0.size : Int) := of_decide_eq_true (by first | (with_reducible assumption) | assumption)
                          have hx6 := bt_at a0 x10_1
                          replace p6 := eq_true p6
                          replace q6 := eq_true q6
                          go_wp2
                          go_roundg k1
                          case measure => have := HK1.out; omega
                          case rel => exact ⟨(wrap64 (x10_1 + 1)), (by first | rfl | (simp; done) | (simp [*]; done)), H', ⟨by have := HK1.out; omega⟩, by repeat (first | exact Drawn0.refl _ | apply Drawn0.step)⟩
                        · rw [if_neg c13] at H
                          have c13b0 : ((bt a0 x10_1) == 32) = false := beq_eq_false_iff_ne.mpr c13
                          have c13b1 : ((bt a0 x10_1) != 32) = true := bne_iff_ne.mpr c13
                          by_cases c14 : (bt a0 x10_1) = 46
                          · rw [if_pos c14] at H
                            have c14b0 : ((bt a0 x10_1) == 46) = true := beq_iff_eq.mpr c14
                            have c14b1 : ((bt a0 x10_1) != 46) = false := bne_eq_false_iff_eq.mpr c14
                            clear c14
                            have H' := Aside0.mk H
                            clear H
                            have p6 : 0 ≤ (x10_1 : Int) := of_decide_eq_true (by first | (with_reducible assumption) | assumption)
                            have q6 : x10_1 < (a0.size : Int) := of_decide_eq_true (by first | (with_reducible assumption) | assumption)
                            have hx6 := bt_at a0 x10_1
                            replace p6 := eq_true p6
                            replace q6 := eq_true q6
                            go_wp2
                            go_roundg k1
                            case measure => have := HK1.out; omega
                            case rel => exact ⟨(wrap64 (x10_1 + 1)), (by first | rfl | (simp; done) | (simp [*]; done)), H', ⟨by have := HK1.out; omega⟩, by repeat (first | exact Drawn0.refl _ | apply Drawn0.step)⟩
                          · rw [if_neg c14] at H
                            have c14b0 : ((bt a0 x10_1) == 46) = false := beq_eq_false_iff_ne.mpr c14
                            have c14b1 : ((bt a0 x10_1) != 46) = true := bne_iff_ne.mpr c14
                            obtain rfl := Option.some.inj H
                            have p6 : 0 ≤ (x10_1 : Int) := of_decide_eq_true (by first | (with_reducible assumption) | assumption)
                            have q6 : x10_1 < (a0.size : Int) := of_decide_eq_true (by first | (with_reducible assumption) | assumption)
                            have hx6 := bt_at a0 x10_1
                            replace p6 := eq_true p6
                            replace q6 := eq_true q6
                            go_wp2
                            go_ret
                            exact ⟨by first | rfl | (simp; done) | (simp [*]; done), by repeat (first | exact Drawn0.refl _ | apply Drawn0.step)⟩
                      · rw [if_neg c12] at H
                        have c12b0 : decide ((bt a0 x10_1) < 48) = false := decide_eq_false c12
                        clear c12
                        by_cases c15 : (bt a0 x10_1) > 57
                        · rw [if_pos c15] at H
                          have c15b0 : decide (57 < (bt a0 x10_1)) = true := decide_eq_true c15
                          clear c15
                          by_cases c16 : (bt a0 x10_1) = 32
                          · rw [if_pos c16] at H
                            have c16b0 : ((bt a0 x10_1) == 32) = true := beq_iff_eq.mpr c16
                            have c16b1 : ((bt a0 x10_1) != 32) = false := bne_eq_false_iff_eq.mpr c16
                            clear c16
                            have H' := Aside0.mk H
                            clear H
                            have p6 : 0 ≤ (x10_1 : Int) := of_decide_eq_true (by first | (with_reducible assumption) | assumption)
                            have q6 : x10_1 < (a0.size : Int) := of_decide_eq_true (by first | (with_reducible assumption) | assumption)
                            have hx6 := bt_at a0 x10_1
                            replace p6 := eq_true p6
                            replace q6 := eq_true q6
                            go_wp2
                            go_roundg k1
                            case measure => have := HK1.out; omega
                            case rel => exact ⟨(wrap64 (x10_1 + 1)), (by first | rfl | (simp; done) | (simp [*]; done)), H', ⟨by have := HK1.out; omega⟩, by repeat (first | exact Drawn0.refl _ | apply Drawn0.step)⟩
                          · rw [if_neg c16] at H
                            have c16b0 : ((bt a0 x10_1) == 32) = false := beq_eq_false_iff_ne.mpr c16
                            have c16b1 : ((bt a0 x10_1) != 32) = true := bne_iff_ne.mpr c16
                            by_cases c17 : (bt a0 x10_1) = 46
                            · rw [if_pos c17] at H
                              have c17b0 : ((bt a0 x10_1) == 46) = true := beq_iff_eq.mpr c17
                              have c17b1 : ((bt a0 x10_1) != 46) = false := bne_eq_false_iff_eq.mpr c17
                              clear c17
                              have H' := Aside0.mk H
                              clear H
                              have p6 : 0 ≤ (x10_1 : Int) := of_decide_eq_true (by first | (with_reducible assumption) | assumption)
                              have q6 : x10_1 < (a0.size : Int) := of_decide_eq_true (by first | (with_reducible assumption) | assumption)
                              have hx6 := bt_at a0 x10_1
                              replace p6 := eq_true p6
                              replace q6 := eq_true q6
                              go_wp2
                              go_roundg k1
                              case measure => have := HK1.out; omega
                              case rel => exact ⟨(wrap64 (x10_1 + 1)), (by first | rfl | (simp; done) | (simp [*]; done)), H', ⟨by have := HK1.out; omega⟩, by repeat (first | exact Drawn0.refl _ | apply Drawn0.step)⟩
                            · rw [if_neg c17] at H
                              have c17b0 : ((bt a0 x10_1) == 46) = false := beq_eq_false_iff_ne.mpr c17
                              have c17b1 : ((bt a0 x10_1) != 46) = true := bne_iff_ne.mpr c17
                              obtain rfl := Option.some.inj H
                              have p6 : 0 ≤ (x10_1 : Int) := of_decide_eq_true (by first | (with_reducible assumption) | assumption)
                              have q6 : x10_1 < (a0.size : Int) := of_decide_eq_true (by first | (with_reducible assumption) | assumption)
                              have hx6 := bt_at a0 x10_1
                              replace p6 := eq_true p6
                              replace q6 := eq_true q6
                              go_wp2
                              go_ret
                              exact ⟨by first | rfl | (simp; done) | (simp [*]; done), by repeat (first | exact Drawn0.refl _ | apply Drawn0.step)⟩
                        · rw [if_neg c15] at H
                          have c15b0 : decide (57 < (bt a0 x10_1)) = false := decide_eq_false c15
                          clear c15
                          have H' := Aside0.mk H
                          clear H
                          have p6 : 0 ≤ (x10_1 : Int) := of_decide_eq_true (by first | (with_reducible assumption) | assumption)
                          have q6 : x10_1 < (a0.size : Int) := of_decide_eq_true (by first | (with_reducible assumption) | assumption)
                          have hx6 := bt_at a0 x10_1
                          replace p6 := eq_true p6
                          replace q6 := eq_true q6
                          go_wp2
                          go_roundg k1
                          case measure => have := HK1.out; omega
                          case rel => exact ⟨(wrap64 (x10_1 + 1)), (by first | rfl | (simp; done) | (simp [*]; done)), H', ⟨by have := HK1.out; omega⟩, by repeat (first | exact Drawn0.refl _ | apply Drawn0.step)⟩
                · rw [if_neg c9] at H
                  have c9b0 : decide (65 ≤ (bt a0 x10_1)) = false := decide_eq_false c9
                  clear c9
                  by_cases c18 : x10_1 = 0
                  · rw [if_pos c18] at H
                    have c18b0 : (x10_1 == 0) = true := beq_iff_eq.mpr c18
                    have c18b1 : (x10_1 != 0) = false := bne_eq_false_iff_eq.mpr c18
                    clear c18
                    obtain rfl := Option.some.inj H
                    have p6 : 0 ≤ (x10_1 : Int) := of_decide_eq_true (by first | (with_reducible assumption) | assumption)
                    have q6 : x10_1 < (a0.size : Int) := of_decide_eq_true (by first | (with_reducible assumption) | assumption)
                    have hx6 := bt_at a0 x10_1
                    replace p6 := eq_true p6
                    replace q6 := eq_true q6
                    go_wp2
                    go_ret
                    exact ⟨by first | rfl | (simp; done) | (simp [*]; done), by repeat (first | exact Drawn0.refl _ | apply Drawn0.step)⟩
                  · rw [if_neg c18] at H
                    have c18b0 : (x10_1 == 0) = false := beq_eq_false_iff_ne.mpr c18
                    have c18b1 : (x10_1 != 0) = true := bne_iff_ne.mpr c18
                    by_cases c19 : (bt a0 x10_1) < 48
                    · rw [if_pos c19] at H
                      have c19b0 : decide ((bt a0 x10_1) < 48) = true := decide_eq_true c19
                      clear c19
                      by_cases c20 : (bt a0 x10_1) = 32
                      · rw [if_pos c20] at H
                        have c20b0 : ((bt a0 x10_1) == 32) = true := beq_iff_eq.mpr c20
                        have c20b1 : ((bt a0 x10_1) != 32) = false := bne_eq_false_iff_eq.mpr c20
                        clear c20
                        have H' := Aside0.mk H
                        clear H
                        have p6 : 0 ≤ (x10_1 : Int) := of_decide_eq_true (by first | (with_reducible assumption) | assumption)
                        have q6 : x10_1 < (a0.size : Int) := of_decide_eq_true (by first | (with_reducible assumption) | assumption)
                        have hx6 := bt_at a0 x10_1
                        replace p6 := eq_true p6
                        replace q6 := eq_true q6
                        go_wp2
                        go_roundg k1
                        case measure => have := HK1.out; omega
                        case rel => exact ⟨(wrap64 (x10_1 + 1)), (by first | rfl | (simp; done) | (simp [*]; done)), H', ⟨by have := HK1.out; omega⟩, by repeat (first | exact Drawn0.refl _ | apply Drawn0.step)⟩
                      · rw [if_neg c20] at H
                        have c20b0 : ((bt a0 x10_1) == 32) = false := beq_eq_false_iff_ne.mpr c20
                        have c20b1 : ((bt a0 x10_1) != 32) = true := bne_iff_ne.mpr c20
                        by_cases c21 : (bt a0 x10_1) = 46
                        · rw [if_pos c21] at H
                          have c21b0 : ((bt a0 x10_1) == 46) = true := beq_iff_eq.mpr c21
                          have c21b1 : ((bt a0 x10_1) != 46) = false := bne_eq_false_iff_eq.mpr c21
                          clear c21
                          have H' := Aside0.mk H
                          clear H
                          have p6 : 0 ≤ (x10_1 : Int) := of_decide_eq_true (by first | (with_reducible assumption) | assumption)
                          have q6 : x10_1 < (a0.size : Int) := of_decide_eq_true (by first | (with_reducible assumption) | assumption)
                          have hx6 := bt_at a0 x10_1
                          replace p6 := eq_true p6
                          replace q6 := eq_true q6
                          go_wp2
                          go_roundg k1
                          case measure => have := HK1.out; omega
                          case rel => exact ⟨(wrap64 (x10_1 + 1)), (by first | rfl | (simp; done) | (simp [*]; done)), H', ⟨by have := HK1.out; omega⟩, by repeat (first | exact Drawn0.refl _ | apply Drawn0.step)⟩
                        · rw [if_neg c21] at H
                          have c21b0 : ((bt a0 x10_1) == 46) = false := beq_eq_false_iff_ne.mpr c21
                          have c21b1 : ((bt a0 x10_1) != 46) = true := bne_iff_ne.mpr c21
                          obtain rfl := Option.some.inj H
                          have p6 : 0 ≤ (x10_1 : Int) := of_decide_eq_true (by first | (with_reducible assumption) | assumption)
                          have q6 : x10_1 < (a0.size : Int) := of_decide_eq_true (by first | (with_reducible assumption) | assumption)
                          have hx6 := bt_at a0 x10_1
                          replace p6 := eq_true p6
                          replace q6 := eq_true q6
                          go_wp2
                          go_ret
                          exact ⟨by first | rfl | (simp; done) | (simp [*]; done), by repeat (first | exact Drawn0.refl _ | apply Drawn0.step)⟩
                    · rw [if_neg c19] at H
                      have c19b0 : decide ((bt a0 x10_1) < 48) = false := decide_eq_false c19
                      clear c19
                      by_cases c22 : (bt a0 x10_1) > 57
                      · rw [if_pos c22] at H
                        have c22b0 : decide (57 < (bt a0 x10_1)) = true := decide_eq_true c22
                        clear c22
                        by_cases c23 : (bt a0 x10_1) = 32
                        · rw [if_pos c23] at H
                          have c23b0 : ((bt a0 x10_1) == 32) = true := beq_iff_eq.mpr c23
                          have c23b1 : ((bt a0 x10_1) != 32) = false := bne_eq_false_iff_eq.mpr c23
                          clear c23
                          have H' := Aside0.mk H
                          clear H
                          have p6 : 0 ≤ (x10_1 : Int) := of_decide_eq_true (by first | (with_reducible assumption) | assumption)
                          have q6 : x10_1 < (a0.size : Int) := of_decide_eq_true (by first | (with_reducible assumption) | assumption)
                          have hx6 := bt_at a0 x10_1
                          replace p6 := eq_true p6
                          replace q6 := eq_true q6
                          go_wp2
                          go_roundg k1
                          case measure => have := HK1.out; omega
                          case rel => exact ⟨(wrap64 (x10_1 + 1)), (by first | rfl | (simp; done) | (simp [*]; done)), H', ⟨by have := HK1.out; omega⟩, by repeat (first | exact Drawn0.refl _ | apply Drawn0.step)⟩
                        · rw [if_neg c23] at H
                          have c23b0 : ((bt a0 x10_1) == 32) = false := beq_eq_false_iff_ne.mpr c23
                          have c23b1 : ((bt a0 x10_1) != 32) = true := bne_iff_ne.mpr c23
                          by_cases c24 : (bt a0 x10_1) = 46
                          · rw [if_pos c24] at H
                            have c24b0 : ((bt a0 x10_1) == 46) = true := beq_iff_eq.mpr c24
                            have c24b1 : ((bt a0 x10_1) != 46) = false := bne_eq_false_iff_eq.mpr c24
                            clear c24
                            have H' := Aside0.mk H
                            clear H
                            have p6 : 0 ≤ (x10_1 : Int) := of_decide_eq_true (by first | (with_reducible assumption) | assumption)
                            have q6 : x10_1 < (a0.size : Int) := of_decide_eq_true (by first | (with_reducible assumption) | assumption)
                            have hx6 := bt_at a0 x10_1
                            replace p6 := eq_true p6
                            replace q6 := eq_true q6
                            go_wp2
                            go_roundg k1
                            case measure => have := HK1.out; omega
                            case rel => exact ⟨(wrap64 (x10_1 + 1)), (by first | rfl | (simp; done) | (simp [*]; done)), H', ⟨by have := HK1.out; omega⟩, by repeat (first | exact Drawn0.refl _ | apply Drawn0.step)⟩
                          · rw [if_neg c24] at H
                            have c24b0 : ((bt a0 x10_1) == 46) = false := beq_eq_false_iff_ne.mpr c24
                            have c24b1 : ((bt a0 x10_1) != 46) = true := bne_iff_ne.mpr c24
                            obtain rfl := Option.some.inj H
                            have p6 : 0 ≤ (x10_1 : Int) := of_decide_eq_true (by first | (with_reducible assumption) | assumption)
                            have q6 : x10_1 < (a0.size : Int) := of_decide_eq_true (by first | (with_reducible assumption) | assumption)
                            have hx6 := bt_at a0 x10_1
                            replace p6 := eq_true p6
                            replace q6 := eq_true q6
                            go_wp2
                            go_ret
                            exact ⟨by first | rfl | (simp; done) | (simp [*]; done), by repeat (first | exact Drawn0.refl _ | apply Drawn0.step)⟩
                      · rw [if_neg c22] at H
                        have c22b0 : decide (57 < (bt a0 x10_1)) = false := decide_eq_false c22
                        clear c22
                        have H' := Aside0.mk H
                        clear H
                        have p6 : 0 ≤ (x10_1 : Int) := of_decide_eq_true (by first | (with_reducible assumption) | assumption)
                        have q6 : x10_1 < (a0.size : Int) := of_decide_eq_true (by first | (with_reducible assumption) | assumption)
                        have hx6 := bt_at a0 x10_1
                        replace p6 := eq_true p6
                        replace q6 := eq_true q6
                        go_wp2
                        go_roundg k1
                        case measure => have := HK1.out; omega
                        case rel => exact ⟨(wrap64 (x10_1 + 1)), (by first | rfl | (simp; done) | (simp [*]; done)), H', ⟨by have := HK1.out; omega⟩, by repeat (first | exact Drawn0.refl _ | apply Drawn0.step)⟩
            · rw [if_neg c7] at H
              have c7b0 : decide (97 ≤ (bt a0 x10_1)) = false := decide_eq_false c7
              clear c7
              by_cases c25 : 65 ≤ (bt a0 x10_1)
              · rw [if_pos c25] at H
                have c25b0 : decide (65 ≤ (bt a0 x10_1)) = true := decide_eq_true c25
                clear c25
                by_cases c26 : ((bt a0 x10_1) ≤ 90)
                · rw [if_pos c26] at H
                  have c26b0 : decide ((bt a0 x10_1) ≤ 90) = true := decide_eq_true c26
                  clear c26
                  have H' := Aside0.mk H
                  clear H
                  have p6 : 0 ≤ (x10_1 : Int) := of_decide_eq_true (by first | (with_reducible assumption) | assumption)
                  have q6 : x10_1 < (a0.size : Int) := of_decide_eq_true (by first | (with_reducible assumption) | assumption)
                  have hx6 := bt_at a0 x10_1
                  replace p6 := eq_true p6
                  replace q6 := eq_true q6
                  go_wp2
                  go_roundg k1
                  case measure => have := HK1.out; omega
                  case rel => exact ⟨(wrap64 (x10_1 + 1)), (by first | rfl | (simp; done) | (simp [*]; done)), H', ⟨by have := HK1.out; omega⟩, by repeat (first | exact Drawn0.refl _ | apply Drawn0.step)⟩
                · rw [if_neg c26] at H
                  have c26b0 : decide ((bt a0 x10_1) ≤ 90) = false := decide_eq_false c26
                  clear c26
                  by_cases c27 : x10_1 = 0
                  · rw [if_pos c27] at H
                    have c27b0 : (x10_1 == 0) = true := beq_iff_eq.mpr c27
                    have c27b1 : (x10_1 != 0) = false := bne_eq_false_iff_eq.mpr c27
                    clear c27
                    obtain rfl := Option.some.inj H
                    have p6 : 0 ≤ (x10_1 : Int) := of_decide_eq_true (by first | (with_reducible assumption) | assumption)
                    have q6 : x10_1 < (a0.size : Int) := of_decide_eq_true (by first | (with_reducible assumption) | assumption)
                    have hx6 := bt_at a0 x10_1
                    replace p6 := eq_true p6
                    replace q6 := eq_true q6
                    go_wp2
                    go_ret
                    exact ⟨by first | rfl | (simp; done) | (simp [*]; done), by repeat (first | exact Drawn0.refl _ | apply Drawn0.step)⟩
                  · rw [if_neg c27] at H
                    have c27b0 : (x10_1 == 0) = false := beq_eq_false_iff_ne.mpr c27
                    have c27b1 : (x10_1 != 0) = true := bne_iff_ne.mpr c27
                    by_cases c28 : (bt a0 x10_1) < 48
                    · rw [if_pos c28] at H
                      have c28b0 : decide ((bt a0 x10_1) < 48) = true := decide_eq_true c28
                      clear c28
                      by_cases c29 : (bt a0 x10_1) = 32
                      · rw [if_pos c29] at H
                        have c29b0 : ((bt a0 x10_1) == 32) = true := beq_iff_eq.mpr c29
                        have c29b1 : ((bt a0 x10_1) != 32) = false := bne_eq_false_iff_eq.mpr c29
                        clear c29
                        have H' := Aside0.mk H
                        clear H
                        have p6 : 0 ≤ (x10_1 : Int) := of_decide_eq_true (by first | (with_reducible assumption) | assumption)
                        have q6 : x10_1 < (a0.size : Int) := of_decide_eq_true (by first | (with_reducible assumption) | assumption)
                        have hx6 := bt_at a0 x10_1
                        replace p6 := eq_true p6
                        replace q6 := eq_true q6
                        go_wp2
                        go_roundg k1
                        case measure => have := HK1.out; omega
                        case rel => exact ⟨(wrap64 (x10_1 + 1)), (by first | rfl | (simp; done) | (simp [*]; done)), H', ⟨by have := HK1.out; omega⟩, by repeat (first | exact Drawn0.refl _ | apply Drawn0.step)⟩
                      · rw [if_neg c29] at H
                        have c29b0 : ((bt a0 x10_1) == 32) = false := beq_eq_false_iff_ne.mpr c29
                        have c29b1 : ((bt a0 x10_1) != 32) = true := bne_iff_ne.mpr c29
                        by_cases c30 : (bt a0 x10_1) = 46
                        · rw [if_pos c30] at H
                          have c30b0 : ((bt a0 x10_1) == 46) = true := beq_iff_eq.mpr c30
                          have c30b1 : ((bt a0 x10_1) != 46) = false := bne_eq_false_iff_eq.mpr c30
                          clear c30
                          have H' := Aside0.mk H
                          clear H
                          have p6 : 0 ≤ (x10_1 : Int) := of_decide_eq_true (by first | (with_reducible assumption) | assumption)
                          have q6 : x10_1 < (a0.size : Int) := of_decide_eq_true (by first | (with_reducible assumption) | assumption)
                          have hx6 := bt_at a0 x10_1
                          replace p6 := eq_true p6
                          replace q6 := eq_true q6
                          go_wp2
                          go_roundg k1
                          case measure => have := HK1.out; omega
                          case rel => exact ⟨(wrap64 (x10_1 + 1)), (by first | rfl | (simp; done) | (simp [*]; done)), H', ⟨by have := HK1.out; omega⟩, by repeat (first | exact Drawn0.refl _ | apply Drawn0.step)⟩
                        · rw [if_neg c30] at H
                          have c30b0 : ((bt a0 x10_1) == 46) = false := beq_eq_false_iff_ne.mpr c30
                          have c30b1 : ((bt a0 x10_1) != 46) = true := bne_iff_ne.mpr c30
                          obtain rfl := Option.some.inj H
                          have p6 : 0 ≤ (x10_1 : Int) := of_decide_eq_true (by first | (with_reducible assumption) | assumption)
                          have q6 : x10_1 < (a0.size : Int) := of_decide_eq_true (by first | (with_reducible assumption) | assumption)
                          have hx6 := bt_at a0 x10_1
                          replace p6 := eq_true p6
                          replace q6 := eq_true q6
                          go_wp2
                          go_ret
                          exact ⟨by first | rfl | (simp; done) | (simp [*]; done), by repeat (first | exact Drawn0.refl _ | apply Drawn0.step)⟩
                    · rw [if_neg c28] at H
                      have c28b0 : decide ((bt a0 x10_1) < 48) = false := decide_eq_false c28
                      clear c28
                      by_cases c31 : (bt a0 x10_1) > 57
                      · rw [if_pos c31] at H
                        have c31b0 : decide (57 < (bt a0 x10_1)) = true := decide_eq_true c31
                        clear c31
                        by_cases c32 : (bt a0 x10_1) = 32
                        · rw [if_pos c32] at H
                          have c32b0 : ((bt a0 x10_1) == 32) = true := beq_iff_eq.mpr c32
                          have c32b1 : ((bt a0 x10_1) != 32) = false := bne_eq_false_iff_eq.mpr c32
                          clear c32
                          have H' := Aside0.mk H
                          clear H
                          have p6 : 0 ≤ (x10_1 : Int) := of_decide_eq_true (by first | (with_reducible assumption) | assumption)
                          have q6 : x10_1 < (a0.size : Int) := of_decide_eq_true (by first | (with_reducible assumption) | assumption)
                          have hx6 := bt_at a0 x10_1
                          replace p6 := eq_true p6
                          replace q6 := eq_true q6
                          go_wp2
                          go_roundg k1
                          case measure => have := HK1.out; omega
                          case rel => exact ⟨(wrap64 (x10_1 + 1)), (by first | rfl | (simp; done) | (simp [*]; done)), H', ⟨by have := HK1.out; omega⟩, by repeat (first | exact Drawn0.refl _ | apply Drawn0.step)⟩
                        · rw [if_neg c32] at H
                          have c32b0 : ((bt a0 x10_1) == 32) = false := beq_eq_false_iff_ne.mpr c32
                          have c32b1 : ((bt a0 x10_1) != 32) = true := bne_iff_ne.mpr c32
                          by_cases c33 : (bt a0 x10_1) = 46
                          · rw [if_pos c33] at H
                            have c33b0 : ((bt a0 x10_1) == 46) = true := beq_iff_eq.mpr c33
                            have c33b1 : ((bt a0 x10_1) != 46) = false := bne_eq_false_iff_eq.mpr c33
                            clear c33
                            have H' := Aside0.mk H
                            clear H
                            have p6 : 0 ≤ (x10_1 : Int) := of_decide_eq_true (by first | (with_reducible assumption) | assumption)
                            have q6 : x10_1 < (a0.size : Int) := of_decide_eq_true (by first | (with_reducible assumption) | assumption)
                            have hx6 := bt_at a0 x10_1
                            replace p6 := eq_true p6
                            replace q6 := eq_true q6
                            go_wp2
                            go_roundg k1
                            case measure => have := HK1.out; omega
                            case rel => exact ⟨(wrap64 (x10_1 + 1)), (by first | rfl | (simp; done) | (simp [*]; done)), H', ⟨by have := HK1.out; omega⟩, by repeat (first | exact Drawn0.refl _ | apply Drawn0.step)⟩
                          · rw [if_neg c33] at H
                            have c33b0 : ((bt a0 x10_1) == 46) = false := beq_eq_false_iff_ne.mpr c33
                            have c33b1 : ((bt a0 x10_1) != 46) = true := bne_iff_ne.mpr c33
                            obtain rfl := Option.some.inj H
                            have p6 : 0 ≤ (x10_1 : Int) := of_decide_eq_true (by first | (with_reducible assumption) | assumption)
                            have q6 : x10_1 < (a0.size : Int) := of_decide_eq_true (by first | (with_reducible assumption) | assumption)
                            have hx6 := bt_at a0 x10_1
                            replace p6 := eq_true p6
                            replace q6 := eq_true q6
                            go_wp2
                            go_ret
                            exact ⟨by first | rfl | (simp; done) | (simp [*]; done), by repeat (first | exact Drawn0.refl _ | apply Drawn0.step)⟩
                      · rw [if_neg c31] at H
                        have c31b0 : decide (57 < (bt a0 x10_1)) = false := decide_eq_false c31
                        clear c31
                        have H' := Aside0.mk H
                        clear H
                        have p6 : 0 ≤ (x10_1 : Int) := of_decide_eq_true (by first | (with_reducible assumption) | assumption)
                        have q6 : x10_1 < (a0.size : Int) := of_decide_eq_true (by first | (with_reducible assumption) | assumption)
                        have hx6 := bt_at a0 x10_1
                        replace p6 := eq_true p6
                        replace q6 := eq_true q6
                        go_wp2
                        go_roundg k1
                        case measure => have := HK1.out; omega
                        case rel => exact ⟨(wrap64 (x10_1 + 1)), (by first | rfl | (simp; done) | (simp [*]; done)), H', ⟨by have := HK1.out; omega⟩, by repeat (first | exact Drawn0.refl _ | apply Drawn0.step)⟩
              · rw [if_neg c25] at H
                have c25b0 : decide (65 ≤ (bt a0 x10_1)) = false := decide_eq_false c25
                clear c25
                by_cases c34 : x10_1 = 0
                · rw [if_pos c34] at H
                  have c34b0 : (x10_1 == 0) = true := beq_iff_eq.mpr c34
                  have c34b1 : (x10_1 != 0) = false := bne_eq_false_iff_eq.mpr c34
                  clear c34
                  obtain rfl := Option.some.inj H
                  have p6 : 0 ≤ (x10_1 : Int) := of_decide_eq_true (by first | (with_reducible assumption) | assumption)
                  have q6 : x10_1 < (a0.size : Int) := of_decide_eq_true (by first | (with_reducible assumption) | assumption)
                  have hx6 := bt_at a0 x10_1
                  replace p6 := eq_true p6
                  replace q6 := eq_true q6
                  go_wp2
                  go_ret
                  exact ⟨by first | rfl | (simp; done) | (simp [*]; done), by repeat (first | exact Drawn0.refl _ | apply Drawn0.step)⟩
                · rw [if_neg c34] at H
                  have c34b0 : (x10_1 == 0) = false := beq_eq_false_iff_ne.mpr c34
                  have c34b1 : (x10_1 != 0) = true := bne_iff_ne.mpr c34
                  by_cases c35 : (bt a0 x10_1) < 48
                  · rw [if_pos c35] at H
                    have c35b0 : decide ((bt a0 x10_1) < 48) = true := decide_eq_true c35
                    clear c35
                    by_cases c36 : (bt a0 x10_1) = 32
                    · rw [if_pos c36] at H
                      have c36b0 : ((bt a0 x10_1) == 32) = true := beq_iff_eq.mpr c36
                      have c36b1 : ((bt a0 x10_1) != 32) = false := bne_eq_false_iff_eq.mpr c36
                      clear c36
                      have H' := Aside0.mk H
                      clear H
                      have p6 : 0 ≤ (x10_1 : Int) := of_decide_eq_true (by first | (with_reducible assumption) | assumption)
                      have q6 : x10_1 < (a0.size : Int) := of_decide_eq_true (by first | (with_reducible assumption) | assumption)
                      have hx6 := bt_at a0 x10_1
                      replace p6 := eq_true p6
                      replace q6 := eq_true q6
                      go_wp2
                      go_roundg k1
                      case measure => have := HK1.out; omega
                      case rel => exact ⟨(wrap64 (x10_1 + 1)), (by first | rfl | (simp; done) | (simp [*]; done)), H', ⟨by have := HK1.out; omega⟩, by repeat (first | exact Drawn0.refl _ | apply Drawn0.step)⟩
                    · rw [if_neg c36] at H
                      have c36b0 : ((bt a0 x10_1) == 32) = false := beq_eq_false_iff_ne.mpr c36
                      have c36b1 : ((bt a0 x10_1) != 32) = true := bne_iff_ne.mpr c36
                      by_cases c37 : (bt a0 x10_1) = 46
                      · rw [if_pos c37] at H
                        have c37b0 : ((bt a0 x10_1) == 46) = true := beq_iff_eq.mpr c37
                        have c37b1 : ((bt a0 x10_1) != 46) = false := bne_eq_false_iff_eq.mpr c37
                        clear c37
                        have H' := Aside0.mk H
                        clear H
                        have p6 : 0 ≤ (x10_1 : Int) := of_decide_eq_true (by first | (with_reducible assumption) | assumption)
                        have q6 : x10_1 < (a0.size : Int) := of_decide_eq_true (by first | (with_reducible assumption) | assumption)
                        have hx6 := bt_at a0 x10_1
                        replace p6 := eq_true p6
                        replace q6 := eq_true q6
                        go_wp2
                        go_roundg k1
                        case measure => have := HK1.out; omega
                        case rel => exact ⟨(wrap64 (x10_1 + 1)), (by first | rfl | (simp; done) | (simp [*]; done)), H', ⟨by have := HK1.out; omega⟩, by repeat (first | exact Drawn0.refl _ | apply Drawn0.step)⟩
                      · rw [if_neg c37] at H
                        have c37b0 : ((bt a0 x10_1) == 46) = false := beq_eq_false_iff_ne.mpr c37
                        have c37b1 : ((bt a0 x10_1) != 46) = true := bne_iff_ne.mpr c37
                        obtain rfl := Option.some.inj H
                        have p6 : 0 ≤ (x10_1 : Int) := of_decide_eq_true (by first | (with_reducible assumption) | assumption)
                        have q6 : x10_1 < (a0.size : Int) := of_decide_eq_true (by first | (with_reducible assumption) | assumption)
                        have hx6 := bt_at a0 x10_1
                        replace p6 := eq_true p6
                        replace q6 := eq_true q6
                        go_wp2
                        go_ret
                        exact ⟨by first | rfl | (simp; done) | (simp [*]; done), by repeat (first | exact Drawn0.refl _ | apply Drawn0.step)⟩
                  · rw [if_neg c35] at H
                    have c35b0 : decide ((bt a0 x10_1) < 48) = false := decide_eq_false c35
                    clear c35
                    by_cases c38 : (bt a0 x10_1) > 57
                    · rw [if_pos c38] at H
                      have c38b0 : decide (57 < (bt a0 x10_1)) = true := decide_eq_true c38
                      clear c38
                      by_cases c39 : (bt a0 x10_1) = 32
                      · rw [if_pos c39] at H
                        have c39b0 : ((bt a0 x10_1) == 32) = true := beq_iff_eq.mpr c39
                        have c39b1 : ((bt a0 x10_1) != 32) = false := bne_eq_false_iff_eq.mpr c39
                        clear c39
                        have H' := Aside0.mk H
                        clear H
                        have p6 : 0 ≤ (x10_1 : Int) := of_decide_eq_true (by first | (with_reducible assumption) | assumption)
                        have q6 : x10_1 < (a0.size : Int) := of_decide_eq_true (by first | (with_reducible assumption) | assumption)
                        have hx6 := bt_at a0 x10_1
                        replace p6 := eq_true p6
                        replace q6 := eq_true q6
                        go_wp2
                        go_roundg k1
                        case measure => have := HK1.out; omega
                        case rel => exact ⟨(wrap64 (x10_1 + 1)), (by first | rfl | (simp; done) | (simp [*]; done)), H', ⟨by have := HK1.out; omega⟩, by repeat (first | exact Drawn0.refl _ | apply Drawn0.step)⟩
                      · rw [if_neg c39] at H
                        have c39b0 : ((bt a0 x10_1) == 32) = false := beq_eq_false_iff_ne.mpr c39
                        have c39b1 : ((bt a0 x10_1) != 32) = true := bne_iff_ne.mpr c39
                        by_cases c40 : (bt a0 x10_1) = 46
                        · rw [if_pos c40] at H
                          have c40b0 : ((bt a0 x10_1) == 46) = true := beq_iff_eq.mpr c40
                          have c40b1 : ((bt a0 x10_1) != 46) = false := bne_eq_false_iff_eq.mpr c40
                          clear c40
                          have H' := Aside0.mk H
                          clear H
                          have p6 : 0 ≤ (x10_1 : Int) := of_decide_eq_true (by first | (with_reducible assumption) | assumption)
                          have q6 : x10_1 < (a0.size : Int) := of_decide_eq_true (by first | (with_reducible assumption) | assumption)
                          have hx6 := bt_at a0 x10_1
                          replace p6 := eq_true p6
                          replace q6 := eq_true q6
                          go_wp2
                          go_roundg k1
                          case measure => have := HK1.out; omega
                          case rel => exact ⟨(wrap64 (x10_1 + 1)), (by first | rfl | (simp; done) | (simp [*]; done)), H', ⟨by have := HK1.out; omega⟩, by repeat (first | exact Drawn0.refl _ | apply Drawn0.step)⟩
                        · rw [if_neg c40] at H
                          have c40b0 : ((bt a0 x10_1) == 46) = false := beq_eq_false_iff_ne.mpr c40
                          have c40b1 : ((bt a0 x10_1) != 46) = true := bne_iff_ne.mpr c40
                          obtain rfl := Option.some.inj H
                          have p6 : 0 ≤ (x10_1 : Int) := of_decide_eq_true (by first | (with_reducible assumption) | assumption)
                          have q6 : x10_1 < (a0.size : Int) := of_decide_eq_true (by first | (with_reducible assumption) | assumption)
                          have hx6 := bt_at a0 x10_1
                          replace p6 := eq_true p6
                          replace q6 := eq_true q6
                          go_wp2
                          go_ret
                          exact ⟨by first | rfl | (simp; done) | (simp [*]; done), by repeat (first | exact Drawn0.refl _ | apply Drawn0.step)⟩
                    · rw [if_neg c38] at H
                      have c38b0 : decide (57 < (bt a0 x10_1)) = false := decide_eq_false c38
                      clear c38
                      have H' := Aside0.mk H
                      clear H
                      have p6 : 0 ≤ (x10_1 : Int) := of_decide_eq_true (by first | (with_reducible assumption) | assumption)
                      have q6 : x10_1 < (a0.size : Int) := of_decide_eq_true (by first | (with_reducible assumption) | assumption)
                      have hx6 := bt_at a0 x10_1
                      replace p6 := eq_true p6
                      replace q6 := eq_true q6
                      go_wp2
                      go_roundg k1
                      case measure => have := HK1.out; omega
                      case rel => exact ⟨(wrap64 (x10_1 + 1)), (by first | rfl | (simp; done) | (simp [*]; done)), H', ⟨by have := HK1.out; omega⟩, by repeat (first | exact Drawn0.refl _ | apply Drawn0.step)⟩
          · rw [if_neg c5] at H
            exact absurd H (by simp)
        · rw [if_neg c4] at H
          exact absurd H (by simp)
      · rw [if_neg c3] at H
        have c3b0 : decide (x10_1 < (a0.size : Int)) = false := decide_eq_false c3
        clear c3
        by_cases c41 : (a0.size : Int) ≥ 1
        · rw [if_pos c41] at H
          have c41b0 : decide (1 ≤ (a0.size : Int)) = true := decide_eq_true c41
          have c41b1 : decide (1 ≤ a0.size) = true := decide_eq_true (by omega)
          clear c41
          obtain rfl := Option.some.inj H
          go_wp2
          go_ret
          exact ⟨by first | rfl | (simp; done) | (simp [*]; done), by repeat (first | exact Drawn0.refl _ | apply Drawn0.step)⟩
        · rw [if_neg c41] at H
          have c41b0 : decide (1 ≤ (a0.size : Int)) = false := decide_eq_false c41
          have c41b1 : decide (1 ≤ a0.size) = false := decide_eq_false (by omega)
          clear c41
          obtain rfl := Option.some.inj H
          go_wp2
          go_ret
          exact ⟨by first | rfl | (simp; done) | (simp [*]; done), by repeat (first | exact Drawn0.refl _ | apply Drawn0.step)⟩
end Go.Proofs.YtkklhlakklcnbaaGreatDoorRRR.Y
end
section
namespace Go.Proofs.YtkklhlakklcnbaaGreatDoorRRR.Y
open Go.RowKit Go.Proofs.YtkklhlakklcnbaaGreatDoorRRRW.PrintWords Go.Proofs.YtkklhlakklcnbaaGreatDoorRRRW.PrintLast Go.Proofs.YtkklhlakklcnbaaGreatDoorRRRW.PrintMore
attribute [local go_sem] max2_int min2_int max_two min_two max_three min_three max_four min_four   -- for this text's walks alone
set_option linter.unusedVariables false
set_option linter.unusedSimpArgs false
set_option maxHeartbeats 8000000 in
set_option maxRecDepth 100000 in
theorem xansi_SetWindowTitle.calls (a0 : ByteArray) (r : ByteArray) (w : World) (h : xansi_SetWindowTitle.f a0 = some r) :
    Calls Tryz.prog 99 #[.string a0] w fun e w' => e = .returned (.string r) ∧ Drawn0 w w' := by
  have H : (if 4 + a0.size ≤ 9223372036854775807 then (if 4 + a0.size + 1 ≤ 9223372036854775807 then (some (((⟨#[27, 93, 50, 59]⟩ : ByteArray) ++ a0) ++ (⟨#[7]⟩ : ByteArray))) else (none)) else (none)) = some r := h
  clear h
  by_cases c2 : 4 + a0.size ≤ 9223372036854775807
  · rw [if_pos c2] at H
    have c2b0 := eq_true c2
    have c2b1 : decide (4 + a0.size ≤ 9223372036854775807) = true := decide_eq_true c2
    try have c2b2 : (9223372036854775807 < 4 + a0.size) = False := eq_false (Nat.not_lt.2 c2)
    by_cases c3 : 4 + a0.size + 1 ≤ 9223372036854775807
    · rw [if_pos c3] at H
      have c3b0 := eq_true c3
      have c3b1 : decide (4 + a0.size + 1 ≤ 9223372036854775807) = true := decide_eq_true c3
      try have c3b2 : (9223372036854775807 < 4 + a0.size + 1) = False := eq_false (Nat.not_lt.2 c3)
      obtain rfl := Option.some.inj H
      go_enter Tryz.func99, Tryz.ntmps99
      go_wp2
      go_ret
      exact ⟨by first | rfl | (simp; done) | (simp [*]; done), by repeat (first | exact Drawn0.refl _ | apply Drawn0.step)⟩
    · rw [if_neg c3] at H
      exact absurd H (by simp)
  · rw [if_neg c2] at H
    exact absurd H (by simp)
end Go.Proofs.YtkklhlakklcnbaaGreatDoorRRR.Y
end
section
namespace Go.Proofs.YtkklhlakklcnbaaGreatDoorRRR.Y
open Go.RowKit Go.Proofs.YtkklhlakklcnbaaGreatDoorRRRW.PrintWords Go.Proofs.YtkklhlakklcnbaaGreatDoorRRRW.PrintLast Go.Proofs.YtkklhlakklcnbaaGreatDoorRRRW.PrintMore
attribute [local go_sem] max2_int min2_int max_two min_two max_three min_three max_four min_four   -- for this text's walks alone
set_option linter.unusedVariables false
set_option linter.unusedSimpArgs false
set_option maxHeartbeats 8000000 in
set_option maxRecDepth 100000 in
theorem xansi_SetIconName.calls (a0 : ByteArray) (r : ByteArray) (w : World) (h : xansi_SetIconName.f a0 = some r) :
    Calls Tryz.prog 100 #[.string a0] w fun e w' => e = .returned (.string r) ∧ Drawn0 w w' := by
  have H : (if 4 + a0.size ≤ 9223372036854775807 then (if 4 + a0.size + 1 ≤ 9223372036854775807 then (some (((⟨#[27, 93, 49, 59]⟩ : ByteArray) ++ a0) ++ (⟨#[7]⟩ : ByteArray))) else (none)) else (none)) = some r := h
  clear h
  by_cases c2 : 4 + a0.size ≤ 9223372036854775807
  · rw [if_pos c2] at H
    have c2b0 := eq_true c2
    have c2b1 : decide (4 + a0.size ≤ 9223372036854775807) = true := decide_eq_true c2
    try have c2b2 : (9223372036854775807 < 4 + a0.size) = False := eq_false (Nat.not_lt.2 c2)
    by_cases c3 : 4 + a0.size + 1 ≤ 9223372036854775807
    · rw [if_pos c3] at H
      have c3b0 := eq_true c3
      have c3b1 : decide (4 + a0.size + 1 ≤ 9223372036854775807) = true := decide_eq_true c3
      try have c3b2 : (9223372036854775807 < 4 + a0.size + 1) = False := eq_false (Nat.not_lt.2 c3)
      obtain rfl := Option.some.inj H
      go_enter Tryz.func100, Tryz.ntmps100
      go_wp2
      go_ret
      exact ⟨by first | rfl | (simp; done) | (simp [*]; done), by repeat (first | exact Drawn0.refl _ | apply Drawn0.step)⟩
    · rw [if_neg c3] at H
      exact absurd H (by simp)
  · rw [if_neg c2] at H
    exact absurd H (by simp)
end Go.Proofs.YtkklhlakklcnbaaGreatDoorRRR.Y
end
section
namespace Go.Proofs.YtkklhlakklcnbaaGreatDoorRRR.Y
open Go.RowKit Go.Proofs.YtkklhlakklcnbaaGreatDoorRRRW.PrintWords Go.Proofs.YtkklhlakklcnbaaGreatDoorRRRW.PrintLast Go.Proofs.YtkklhlakklcnbaaGreatDoorRRRW.PrintMore
attribute [local go_sem] max2_int min2_int max_two min_two max_three min_three max_four min_four   -- for this text's walks alone
set_option linter.unusedVariables false
set_option linter.unusedSimpArgs false
set_option maxHeartbeats 8000000 in
set_option maxRecDepth 100000 in
theorem xansi_SetIconNameWindowTitle.calls (a0 : ByteArray) (r : ByteArray) (w : World) (h : xansi_SetIconNameWindowTitle.f a0 = some r) :
    Calls Tryz.prog 101 #[.string a0] w fun e w' => e = .returned (.string r) ∧ Drawn0 w w' := by
  have H : (if 4 + a0.size ≤ 9223372036854775807 then (if 4 + a0.size + 1 ≤ 9223372036854775807 then (some (((⟨#[27, 93, 48, 59]⟩ : ByteArray) ++ a0) ++ (⟨#[7]⟩ : ByteArray))) else (none)) else (none)) = some r := h
  clear h
  by_cases c2 : 4 + a0.size ≤ 9223372036854775807
  · rw [if_pos c2] at H
    have c2b0 := eq_true c2
    have c2b1 : decide (4 + a0.size ≤ 9223372036854775807) = true := decide_eq_true c2
    try have c2b2 : (9223372036854775807 < 4 + a0.size) = False := eq_false (Nat.not_lt.2 c2)
    by_cases c3 : 4 + a0.size + 1 ≤ 9223372036854775807
    · rw [if_pos c3] at H
      have c3b0 := eq_true c3
      have c3b1 : decide (4 + a0.size + 1 ≤ 9223372036854775807) = true := decide_eq_true c3
      try have c3b2 : (9223372036854775807 < 4 + a0.size + 1) = False := eq_false (Nat.not_lt.2 c3)
      obtain rfl := Option.some.inj H
      go_enter Tryz.func101, Tryz.ntmps101
      go_wp2
      go_ret
      exact ⟨by first | rfl | (simp; done) | (simp [*]; done), by repeat (first | exact Drawn0.refl _ | apply Drawn0.step)⟩
    · rw [if_neg c3] at H
      exact absurd H (by simp)
  · rw [if_neg c2] at H
    exact absurd H (by simp)
end Go.Proofs.YtkklhlakklcnbaaGreatDoorRRR.Y
end
section
namespace Go.Proofs.YtkklhlakklcnbaaGreatDoorRRR.Y
open Go.RowKit Go.Proofs.YtkklhlakklcnbaaGreatDoorRRRW.PrintWords Go.Proofs.YtkklhlakklcnbaaGreatDoorRRRW.PrintLast Go.Proofs.YtkklhlakklcnbaaGreatDoorRRRW.PrintMore
attribute [local go_sem] max2_int min2_int max_two min_two max_three min_three max_four min_four   -- for this text's walks alone
set_option linter.unusedVariables false
set_option linter.unusedSimpArgs false
set_option maxHeartbeats 8000000 in
set_option maxRecDepth 100000 in
theorem xansi_SetForegroundColor.calls (a0 : ByteArray) (r : ByteArray) (w : World) (h : xansi_SetForegroundColor.f a0 = some r) :
    Calls Tryz.prog 102 #[.string a0] w fun e w' => e = .returned (.string r) ∧ Drawn0 w w' := by
  have H : (if 5 + a0.size ≤ 9223372036854775807 then (if 5 + a0.size + 1 ≤ 9223372036854775807 then (some (((⟨#[27, 93, 49, 48, 59]⟩ : ByteArray) ++ a0) ++ (⟨#[7]⟩ : ByteArray))) else (none)) else (none)) = some r := h
  clear h
  by_cases c2 : 5 + a0.size ≤ 9223372036854775807
  · rw [if_pos c2] at H
    have c2b0 := eq_true c2
    have c2b1 : decide (5 + a0.size ≤ 9223372036854775807) = true := decide_eq_true c2
    try have c2b2 : (9223372036854775807 < 5 + a0.size) = False := eq_false (Nat.not_lt.2 c2)
    by_cases c3 : 5 + a0.size + 1 ≤ 9223372036854775807
    · rw [if_pos c3] at H
      have c3b0 := eq_true c3
      have c3b1 : decide (5 + a0.size + 1 ≤ 9223372036854775807) = true := decide_eq_true c3
      try have c3b2 : (9223372036854775807 < 5 + a0.size + 1) = False := eq_false (Nat.not_lt.2 c3)
      obtain rfl := Option.some.inj H
      go_enter Tryz.func102, Tryz.ntmps102
      go_wp2
      go_ret
      exact ⟨by first | rfl | (simp; done) | (simp [*]; done), by repeat (first | exact Drawn0.refl _ | apply Drawn0.step)⟩
    · rw [if_neg c3] at H
      exact absurd H (by simp)
  · rw [if_neg c2] at H
    exact absurd H (by simp)
end Go.Proofs.YtkklhlakklcnbaaGreatDoorRRR.Y
end
section
namespace Go.Proofs.YtkklhlakklcnbaaGreatDoorRRR.Y
open Go.RowKit Go.Proofs.YtkklhlakklcnbaaGreatDoorRRRW.PrintWords Go.Proofs.YtkklhlakklcnbaaGreatDoorRRRW.PrintLast Go.Proofs.YtkklhlakklcnbaaGreatDoorRRRW.PrintMore
attribute [local go_sem] max2_int min2_int max_two min_two max_three min_three max_four min_four   -- for this text's walks alone
set_option linter.unusedVariables false
set_option linter.unusedSimpArgs false
set_option maxHeartbeats 8000000 in
set_option maxRecDepth 100000 in
theorem xansi_SetBackgroundColor.calls (a0 : ByteArray) (r : ByteArray) (w : World) (h : xansi_SetBackgroundColor.f a0 = some r) :
    Calls Tryz.prog 103 #[.string a0] w fun e w' => e = .returned (.string r) ∧ Drawn0 w w' := by
  have H : (if 5 + a0.size ≤ 9223372036854775807 then (if 5 + a0.size + 1 ≤ 9223372036854775807 then (some (((⟨#[27, 93, 49, 49, 59]⟩ : ByteArray) ++ a0) ++ (⟨#[7]⟩ : ByteArray))) else (none)) else (none)) = some r := h
  clear h
  by_cases c2 : 5 + a0.size ≤ 9223372036854775807
  · rw [if_pos c2] at H
    have c2b0 := eq_true c2
    have c2b1 : decide (5 + a0.size ≤ 9223372036854775807) = true := decide_eq_true c2
    try have c2b2 : (9223372036854775807 < 5 + a0.size) = False := eq_false (Nat.not_lt.2 c2)
    by_cases c3 : 5 + a0.size + 1 ≤ 9223372036854775807
    · rw [if_pos c3] at H
      have c3b0 := eq_true c3
      have c3b1 : decide (5 + a0.size + 1 ≤ 9223372036854775807) = true := decide_eq_true c3
      try have c3b2 : (9223372036854775807 < 5 + a0.size + 1) = False := eq_false (Nat.not_lt.2 c3)
      obtain rfl := Option.some.inj H
      go_enter Tryz.func103, Tryz.ntmps103
      go_wp2
      go_ret
      exact ⟨by first | rfl | (simp; done) | (simp [*]; done), by repeat (first | exact Drawn0.refl _ | apply Drawn0.step)⟩
    · rw [if_neg c3] at H
      exact absurd H (by simp)
  · rw [if_neg c2] at H
    exact absurd H (by simp)
end Go.Proofs.YtkklhlakklcnbaaGreatDoorRRR.Y
end
