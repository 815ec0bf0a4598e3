/- Texts of this claim, joined: Y41 Y42 Y43 Y44 Y45. Of each, what the claim uses. -/
import Derived.Test.YtkklhlakklcnbaaDoorKac
import Derived.Test.YtkklhlakklcnbaaDoorKas
import Derived.Test.YtkklhlakklcnbaaDoorKaq
section
namespace Go.Proofs.YtkklhlakklcnbaaDoor.Y
open Go.RowKit Go.Proofs.YtkklhlakklcnbaaDoorW.PrintWords Go.Proofs.YtkklhlakklcnbaaDoorW.PrintLast Go.Proofs.YtkklhlakklcnbaaDoorW.PrintMore
attribute [local go_sem] max2_int min2_int max_two min_two max_three min_three max_four min_four   -- for this text's walks alone
set_option linter.unusedVariables false
set_option linter.unusedSimpArgs false
set_option maxHeartbeats 8000000 in
set_option maxRecDepth 100000 in
theorem spec_DrawParam.calls (A0 : Option Addr) (c0 : Nat) (l0 : List Int) (a1 : Int) (a2 : Int) (r : Int) (w : World) (hr0 : Kd.C (Kd.int .i64) w A0 l0.length l0) (hc0 : l0.length ≤ c0) (h : spec_DrawParam.f l0 a1 a2 = some r) :
    Calls Tryd.prog 48 #[.slice A0 l0.length c0, .int .i64 a1, .int .i64 a2] w fun e w' => e = .returned (.int .i64 r) ∧ Drawn0 w w' := by
  have HR0 := Aside0.mk hr0
  have HC0 := Aside0.mk hc0
  clear hr0 hc0
  have H : (if a1 ≥ (l0.length : Int) then (some a2) else (if 0 ≤ a1 then (if a1 < (l0.length : Int) then ((spec_Or.f (rd l0 a1) a2).bind fun t125 => (some t125)) else (none)) else (none))) = some r := h
  clear h
  by_cases c4 : a1 ≥ (l0.length : Int)
  · rw [if_pos c4] at H
    have c4b0 : decide ((l0.length : Int) ≤ a1) = true := decide_eq_true c4
    clear c4
    obtain rfl := Option.some.inj H
    go_enter Tryd.func48, Tryd.ntmps48
    go_wp2
    go_ret
    exact ⟨by first | rfl | (simp; done) | (simp [*]; done), by repeat (first | exact Drawn0.refl _ | apply Drawn0.step)⟩
  · rw [if_neg c4] at H
    have c4b0 : decide ((l0.length : Int) ≤ a1) = false := decide_eq_false c4
    clear c4
    by_cases c5 : 0 ≤ a1
    · rw [if_pos c5] at H
      have c5b0 : decide (0 ≤ a1) = true := decide_eq_true c5
      clear c5
      by_cases c6 : a1 < (l0.length : Int)
      · rw [if_pos c6] at H
        have c6b0 : decide (a1 < (l0.length : Int)) = true := decide_eq_true c6
        clear c6
        replace H := Option.bind_eq_some_iff.mp H
        obtain ⟨t125, A70, H⟩ := H
        replace H : (some t125) = some r := H
        have A7 := Aside0.mk A70
        clear A70
        obtain rfl := Option.some.inj H
        have p124 : 0 ≤ (a1 : Int) := of_decide_eq_true (by first | (with_reducible assumption) | assumption)
        have q124 : a1 < (l0.length : Int) := of_decide_eq_true (by first | (with_reducible assumption) | assumption)
        obtain ⟨ad124, e124, hx124_0⟩ := Kd.at_int HR0.out a1 p124 q124
        cases e124
        replace p124 := eq_true p124
        replace q124 := eq_true q124
        go_enter Tryd.func48, Tryd.ntmps48
        go_wp2_with (first | ((with_reducible refine gate_callee (f := 68) rfl ?_); refine goesL_ (some 17) rfl rfl Tryd.func68 (by kernel_rfl) rfl #[.int .i64 (rd l0 a1), .int .i64 a2] rfl (by (try simp only [List.map_toArray, List.map_cons, List.map_nil]); first | done | rfl | (simp only [List.length_drop, List.length_take]; rfl)) ?_; (with_reducible refine (spec_Or.calls (rd l0 a1) a2 t125 _ A7.out).mono ?_); rintro e w' ⟨rfl, ⟨nd, rfl⟩⟩; refine ⟨_, rfl, ?_⟩))
        go_ret
        exact ⟨by first | rfl | (simp; done) | (simp [*]; done), by repeat (first | exact Drawn0.refl _ | apply Drawn0.step)⟩
      · rw [if_neg c6] at H
        exact absurd H (by simp)
    · rw [if_neg c5] at H
      exact absurd H (by simp)
end Go.Proofs.YtkklhlakklcnbaaDoor.Y
end
section
namespace Go.Proofs.YtkklhlakklcnbaaDoor.Y
open Go.RowKit Go.Proofs.YtkklhlakklcnbaaDoorW.PrintWords Go.Proofs.YtkklhlakklcnbaaDoorW.PrintLast Go.Proofs.YtkklhlakklcnbaaDoorW.PrintMore
attribute [local go_sem] max2_int min2_int max_two min_two max_three min_three max_four min_four   -- for this text's walks alone
set_option linter.unusedVariables false
set_option linter.unusedSimpArgs false
set_option maxHeartbeats 8000000 in
set_option maxRecDepth 100000 in
theorem spec_DrawNumbers.calls (k : Nat) (A0 : Option Addr) (c0 : Nat) (l0 : List (S33)) (r1 : Int) (r2 : List Int) (r3 : Bool) (w : World) (hr0 : Kd.C k33 w A0 l0.length l0) (hc0 : l0.length ≤ c0) (h : spec_DrawNumbers.f k l0 = some (r1, r2, r3)) :
    Calls Tryd.prog 7 #[.slice A0 l0.length c0] w fun e w' => ∃ v1_ : Value, e = .returned (.tuple #[.int .i64 r1, v1_, .bool r3]) ∧ Kd.R (Kd.int .i64) 2 w' w.heap.size (fun _ => True) v1_ r2 ∧ Below w.heap.size w w' := by
  have HR0 := Aside0.mk hr0
  have HC0 := Aside0.mk hc0
  clear hr0 hc0
  have HB := Aside0.mk (Below.refl w.heap.size w)
  have H : (if (l0.length : Int) = 1 then (if 0 < (l0.length : Int) then (spec_DrawNumbers.j0 k l0 (((rd_T33 l0 0).f0) != 2)) else (none)) else (spec_DrawNumbers.j0 k l0 true)) = some (r1, r2, r3) := h
  clear h
  have HC2 := Aside0.mk H
  clear H
  go_enter Tryd.func7, Tryd.ntmps7
  go_upto_region 1 with (fail)
  go_cut [16] (fun v16 wc => ∃ (kq : Nat) (x16_1 : Bool), v16 = .bool x16_1 ∧ Aside0 (spec_DrawNumbers.j0 kq l0 x16_1 = some (r1, r2, r3)) ∧ Aside0 (kq ≤ k) ∧ Aside0 (Below w.heap.size w wc))
  case first =>
    have H := HC2.out
    clear HC2
    by_cases c3 : (l0.length : Int) = 1
    · rw [if_pos c3] at H
      have c3b0 : ((l0.length : Int) == 1) = true := beq_iff_eq.mpr c3
      have c3b1 : ((l0.length : Int) != 1) = false := bne_eq_false_iff_eq.mpr c3
      clear c3
      (first | rw [c3b0] | (simp only [i64_w, i32_w]; rw [c3b0]) | skip)
      by_cases c4 : 0 < (l0.length : Int)
      · rw [if_pos c4] at H
        have c4b0 : decide (0 < (l0.length : Int)) = true := decide_eq_true c4
        have c4b1 : decide (0 < l0.length) = true := decide_eq_true (by omega)
        clear c4
        have H' := Aside0.mk H
        clear H
        have p126 : 0 ≤ (0 : Int) := (by omega)
        have q126 : 0 < (l0.length : Int) := of_decide_eq_true (by first | (with_reducible assumption) | assumption)
        obtain ⟨ad126, A126_4, c126_4, A126_5, c126_5, e126, hx126_0, hx126_1, hx126_2, hx126_3, hx126_4, hx126_5, hl126_4, hi126_4, hl126_5, hi126_5⟩ := at_T33 HR0.out 0 p126 q126
        cases e126
        have qi126 : (0 < l0.length) = True := eq_true (by omega)
        (try rw [show ((0 : Int)).toNat = 0 from rfl] at hx126_0)
        (try rw [show 0 * 6 = 0 from rfl] at hx126_0)
        (try rw [Addr.add_zero'] at hx126_0)
        (try rw [show ((0 : Int)).toNat = 0 from rfl] at hx126_1)
        (try rw [show 0 * 6 = 0 from rfl] at hx126_1)
        (try rw [Addr.add_zero'] at hx126_1)
        (try rw [show ((0 : Int)).toNat = 0 from rfl] at hx126_2)
        (try rw [show 0 * 6 = 0 from rfl] at hx126_2)
        (try rw [Addr.add_zero'] at hx126_2)
        (try rw [show ((0 : Int)).toNat = 0 from rfl] at hx126_3)
        (try rw [show 0 * 6 = 0 from rfl] at hx126_3)
        (try rw [Addr.add_zero'] at hx126_3)
        (try rw [show ((0 : Int)).toNat = 0 from rfl] at hx126_4)
        (try rw [show 0 * 6 = 0 from rfl] at hx126_4)
        (try rw [Addr.add_zero'] at hx126_4)
        (try rw [show ((0 : Int)).toNat = 0 from rfl] at hx126_5)
        (try rw [show 0 * 6 = 0 from rfl] at hx126_5)
        (try rw [Addr.add_zero'] at hx126_5)
        replace hx126_0 := (HB.out.cell (World.block_lt_of_cell? w _ hx126_0)).trans hx126_0
        replace hx126_1 := (HB.out.cell (World.block_lt_of_cell? w _ hx126_1)).trans hx126_1
        replace hx126_2 := (HB.out.cell (World.block_lt_of_cell? w _ hx126_2)).trans hx126_2
        replace hx126_3 := (HB.out.cell (World.block_lt_of_cell? w _ hx126_3)).trans hx126_3
        replace hx126_4 := (HB.out.cell (World.block_lt_of_cell? w _ hx126_4)).trans hx126_4
        replace hx126_5 := (HB.out.cell (World.block_lt_of_cell? w _ hx126_5)).trans hx126_5
        have HR126_4 := Aside0.mk hi126_4
        have HC126_4 := Aside0.mk hl126_4
        clear hi126_4 hl126_4
        have HR126_5 := Aside0.mk hi126_5
        have HC126_5 := Aside0.mk hl126_5
        clear hi126_5 hl126_5
        replace p126 := eq_true p126
        replace q126 := eq_true q126
        go_wp2
        go_meet
        case rel => exact ⟨_, ((((rd_T33 l0 0).f0) != 2)), (by first | rfl | (simp; done) | (simp [*]; done)), H', ⟨by first | omega | exact Nat.le_refl _⟩, ⟨by repeat (first | (with_reducible first | exact HB.out | apply below_alloc | apply pw_below_drewN | apply below_drew1) | exact HB.out)⟩⟩
      · rw [if_neg c4] at H
        exact absurd H (by simp)
    · rw [if_neg c3] at H
      have c3b0 : ((l0.length : Int) == 1) = false := beq_eq_false_iff_ne.mpr c3
      have c3b1 : ((l0.length : Int) != 1) = true := bne_iff_ne.mpr c3
      (first | rw [c3b0] | (simp only [i64_w, i32_w]; rw [c3b0]) | skip)
      have H' := Aside0.mk H
      clear H
      go_wp2
      go_meet
      case rel => exact ⟨_, (true), (by first | rfl | (simp; done) | (simp [*]; done)), H', ⟨by first | omega | exact Nat.le_refl _⟩, ⟨by repeat (first | (with_reducible first | exact HB.out | apply below_alloc | apply pw_below_drewN | apply below_drew1) | exact HB.out)⟩⟩
  case rest =>
    clear HC2
    try clear c1
    try clear p1
    try clear q1
    try clear hx1
    try clear qi1
    try clear p2
    try clear c3
    try clear c3b0
    try clear c3b1
    try clear c4
    try clear c4b0
    try clear c4b1
    try clear hx126_0
    try clear hx126_1
    try clear hx126_2
    try clear hx126_3
    try clear hx126_4
    try clear hx126_5
    try clear p126
    try clear q126
    obtain ⟨kq, x16_1, rfl, HA, HJ1, HB⟩ := hcut
    cases kq with
    | zero => exact absurd HA.out (by simp [spec_DrawNumbers.j0])
    | succ kj1 =>
      have H := HA.out
      clear HA
      simp only [spec_DrawNumbers.j0] at H
      by_cases c5 : x16_1 = true
      · subst c5
        have H1 : (some (0, ([] : List Int), false)) = some (r1, r2, r3) := by rw [if_pos rfl] at H; exact H
        clear H
        have H := H1
        clear H1
        simp only [Option.some.injEq, Prod.mk.injEq] at H
        obtain ⟨rfl, rfl, rfl⟩ := H
        go_wp2
        go_ret3
        exact ⟨_, by first | rfl | (simp [errW_none, errW_some] <;> rfl) | (simp [*, errW_none, errW_some] <;> rfl), by first | exact Kd.R_nil _ _ _ _ _ | exact Kd.N_nil _ _ _ _ _ | exact Kd.V_nil _ _ _ _ _ | exact Kd.Q_nil _ _ _ _ _ | exact Kd.S_nil _ _ _ _ _, by repeat (first | (with_reducible first | exact HB.out | apply below_alloc | apply pw_below_drewN | apply below_drew1) | exact HB.out)⟩
      · replace c5 := Bool.eq_false_iff.mpr c5
        subst c5
        have H1 : (if 0 < (l0.length : Int) then (spec_DrawNumbers.l0 kj1 l0 ([] : List Int) (((rd_T33 l0 0).f4).length : Int) 0) else (none)) = some (r1, r2, r3) := by rw [if_neg (show ¬ (false = true) by decide)] at H; exact H
        clear H
        have H := H1
        clear H1
        by_cases c6 : 0 < (l0.length : Int)
        · rw [if_pos c6] at H
          have c6b0 : decide (0 < (l0.length : Int)) = true := decide_eq_true c6
          have c6b1 : decide (0 < l0.length) = true := decide_eq_true (by omega)
          clear c6
          have H' := Aside0.mk H
          clear H
          have p127 : 0 ≤ (0 : Int) := (by omega)
          have q127 : 0 < (l0.length : Int) := of_decide_eq_true (by first | (with_reducible assumption) | assumption)
          obtain ⟨ad127, A127_4, c127_4, A127_5, c127_5, e127, hx127_0, hx127_1, hx127_2, hx127_3, hx127_4, hx127_5, hl127_4, hi127_4, hl127_5, hi127_5⟩ := at_T33 HR0.out 0 p127 q127
          cases e127
          have qi127 : (0 < l0.length) = True := eq_true (by omega)
          (try rw [show ((0 : Int)).toNat = 0 from rfl] at hx127_0)
          (try rw [show 0 * 6 = 0 from rfl] at hx127_0)
          (try rw [Addr.add_zero'] at hx127_0)
          (try rw [show ((0 : Int)).toNat = 0 from rfl] at hx127_1)
          (try rw [show 0 * 6 = 0 from rfl] at hx127_1)
          (try rw [Addr.add_zero'] at hx127_1)
          (try rw [show ((0 : Int)).toNat = 0 from rfl] at hx127_2)
          (try rw [show 0 * 6 = 0 from rfl] at hx127_2)
          (try rw [Addr.add_zero'] at hx127_2)
          (try rw [show ((0 : Int)).toNat = 0 from rfl] at hx127_3)
          (try rw [show 0 * 6 = 0 from rfl] at hx127_3)
          (try rw [Addr.add_zero'] at hx127_3)
          (try rw [show ((0 : Int)).toNat = 0 from rfl] at hx127_4)
          (try rw [show 0 * 6 = 0 from rfl] at hx127_4)
          (try rw [Addr.add_zero'] at hx127_4)
          (try rw [show ((0 : Int)).toNat = 0 from rfl] at hx127_5)
          (try rw [show 0 * 6 = 0 from rfl] at hx127_5)
          (try rw [Addr.add_zero'] at hx127_5)
          replace hx127_0 := (HB.out.cell (World.block_lt_of_cell? w _ hx127_0)).trans hx127_0
          replace hx127_1 := (HB.out.cell (World.block_lt_of_cell? w _ hx127_1)).trans hx127_1
          replace hx127_2 := (HB.out.cell (World.block_lt_of_cell? w _ hx127_2)).trans hx127_2
          replace hx127_3 := (HB.out.cell (World.block_lt_of_cell? w _ hx127_3)).trans hx127_3
          replace hx127_4 := (HB.out.cell (World.block_lt_of_cell? w _ hx127_4)).trans hx127_4
          replace hx127_5 := (HB.out.cell (World.block_lt_of_cell? w _ hx127_5)).trans hx127_5
          have HR127_4 := Aside0.mk hi127_4
          have HC127_4 := Aside0.mk hl127_4
          clear hi127_4 hl127_4
          have HR127_5 := Aside0.mk hi127_5
          have HC127_5 := Aside0.mk hl127_5
          clear hi127_5 hl127_5
          replace p127 := eq_true p127
          replace q127 := eq_true q127
          go_wp2
          go_loopg [5, 22] kj1 (fun kq v5 v22 w' => ∃ (x5_2 : List Int) (x22_2 : Int), v22 = .int .i64 x22_2 ∧ Aside0 (spec_DrawNumbers.l0 kq l0 x5_2 (((rd_T33 l0 0).f4).length : Int) x22_2 = some (r1, r2, r3)) ∧ Aside0 (kq ≤ kj1) ∧ Aside0 (Kd.R (Kd.int .i64) 2 w' w.heap.size (fun _ => True) v5 x5_2) ∧ Aside0 (Below w.heap.size w w'))
          case atStart => exact ⟨(([] : List Int)), (0), (by first | rfl | (simp; done) | (simp [*]; done)), H', ⟨Nat.le_refl _⟩, ⟨by first | exact Kd.R_nil _ _ _ _ _ | exact Kd.N_nil _ _ _ _ _ | exact Kd.V_nil _ _ _ _ _ | exact Kd.Q_nil _ _ _ _ _ | exact Kd.S_nil _ _ _ _ _⟩, ⟨by repeat (first | (with_reducible first | exact HB.out | apply below_alloc | apply pw_below_drewN | apply below_drew1) | exact HB.out)⟩⟩
          case round =>
            clear H'
            try clear c1
            try clear p1
            try clear q1
            try clear hx1
            try clear qi1
            try clear p2
            try clear c3
            try clear c3b0
            try clear c3b1
            try clear c4
            try clear c4b0
            try clear c4b1
            try clear c5
            try clear c6
            try clear c6b0
            try clear c6b1
            try clear hx126_0
            try clear hx126_1
            try clear hx126_2
            try clear hx126_3
            try clear hx126_4
            try clear hx126_5
            try clear hx127_0
            try clear hx127_1
            try clear hx127_2
            try clear hx127_3
            try clear hx127_4
            try clear hx127_5
            try clear p1
            try clear p126
            try clear p127
            try clear p2
            try clear q1
            try clear q126
            try clear q127
            obtain ⟨x5_2, x22_2, rfl, HA, HK2, HO_5, HB⟩ := hrel
            cases gk with
            | zero => exact absurd HA.out (by simp [spec_DrawNumbers.l0])
            | succ k2 =>
              have H := HA.out
              clear HA
              simp only [spec_DrawNumbers.l0] at H
              by_cases c7 : x22_2 < (((rd_T33 l0 0).f4).length : Int)
              · rw [if_pos c7] at H
                have c7b0 : decide (x22_2 < (((rd_T33 l0 0).f4).length : Int)) = true := decide_eq_true c7
                clear c7
                by_cases c8 : 0 < (l0.length : Int)
                · rw [if_pos c8] at H
                  have c8b0 : decide (0 < (l0.length : Int)) = true := decide_eq_true c8
                  have c8b1 : decide (0 < l0.length) = true := decide_eq_true (by omega)
                  clear c8
                  replace H := Option.bind_eq_some_iff.mp H
                  obtain ⟨t129, A90, H⟩ := H
                  replace H : (if x5_2.length < 17592186044416 then (spec_DrawNumbers.l0 k2 l0 (x5_2 ++ [t129]) (((rd_T33 l0 0).f4).length : Int) (wrap64 (x22_2 + 1))) else (none)) = some (r1, r2, r3) := H
                  have A9 := Aside0.mk A90
                  clear A90
                  by_cases c10 : x5_2.length < 17592186044416
                  · rw [if_pos c10] at H
                    have LMc10 := Aside0.mk c10
                    clear c10
                    obtain ⟨y130, hy130⟩ : ∃ y_ : List Int, y_ = (x5_2 ++ [t129]) := ⟨_, rfl⟩
                    replace H : (spec_DrawNumbers.l0 k2 l0 y130 (((rd_T33 l0 0).f4).length : Int) (wrap64 (x22_2 + 1))) = some (r1, r2, r3) := by first | (rw [hy130]; with_reducible exact H) | (have H2_ := (Option.bind_some _ _).symm.trans H; rw [hy130]; with_reducible exact H2_) | (have H2_ := (Option.bind_some _ _).symm.trans H; with_reducible exact H2_) | with_reducible exact H | (rw [hy130]; exact H) | exact H
                    have Ny130 := Aside0.mk hy130
                    clear hy130
                    have H' := Aside0.mk H
                    clear H
                    have p128 : 0 ≤ (0 : Int) := (by omega)
                    have q128 : 0 < (l0.length : Int) := of_decide_eq_true (by first | (with_reducible assumption) | assumption)
                    obtain ⟨ad128, A128_4, c128_4, A128_5, c128_5, e128, hx128_0, hx128_1, hx128_2, hx128_3, hx128_4, hx128_5, hl128_4, hi128_4, hl128_5, hi128_5⟩ := at_T33 HR0.out 0 p128 q128
                    obtain rfl : ad127 = ad128 := (by injection e128)
                    have qi128 : (0 < l0.length) = True := eq_true (by omega)
                    (try rw [show ((0 : Int)).toNat = 0 from rfl] at hx128_0)
                    (try rw [show 0 * 6 = 0 from rfl] at hx128_0)
                    (try rw [Addr.add_zero'] at hx128_0)
                    (try rw [show ((0 : Int)).toNat = 0 from rfl] at hx128_1)
                    (try rw [show 0 * 6 = 0 from rfl] at hx128_1)
                    (try rw [Addr.add_zero'] at hx128_1)
                    (try rw [show ((0 : Int)).toNat = 0 from rfl] at hx128_2)
                    (try rw [show 0 * 6 = 0 from rfl] at hx128_2)
                    (try rw [Addr.add_zero'] at hx128_2)
                    (try rw [show ((0 : Int)).toNat = 0 from rfl] at hx128_3)
                    (try rw [show 0 * 6 = 0 from rfl] at hx128_3)
                    (try rw [Addr.add_zero'] at hx128_3)
                    (try rw [show ((0 : Int)).toNat = 0 from rfl] at hx128_4)
                    (try rw [show 0 * 6 = 0 from rfl] at hx128_4)
                    (try rw [Addr.add_zero'] at hx128_4)
                    (try rw [show ((0 : Int)).toNat = 0 from rfl] at hx128_5)
                    (try rw [show 0 * 6 = 0 from rfl] at hx128_5)
                    (try rw [Addr.add_zero'] at hx128_5)
                    replace hx128_0 := (HB.out.cell (World.block_lt_of_cell? w _ hx128_0)).trans hx128_0
                    replace hx128_1 := (HB.out.cell (World.block_lt_of_cell? w _ hx128_1)).trans hx128_1
                    replace hx128_2 := (HB.out.cell (World.block_lt_of_cell? w _ hx128_2)).trans hx128_2
                    replace hx128_3 := (HB.out.cell (World.block_lt_of_cell? w _ hx128_3)).trans hx128_3
                    replace hx128_4 := (HB.out.cell (World.block_lt_of_cell? w _ hx128_4)).trans hx128_4
                    replace hx128_5 := (HB.out.cell (World.block_lt_of_cell? w _ hx128_5)).trans hx128_5
                    have HR128_4 := Aside0.mk hi128_4
                    have HC128_4 := Aside0.mk hl128_4
                    clear hi128_4 hl128_4
                    have HR128_5 := Aside0.mk hi128_5
                    have HC128_5 := Aside0.mk hl128_5
                    clear hi128_5 hl128_5
                    replace p128 := eq_true p128
                    replace q128 := eq_true q128
                    go_wp2_with (first | ((with_reducible refine gate_callee (f := 48) rfl ?_); refine goesL_ (some 31) rfl rfl Tryd.func48 (by kernel_rfl) rfl #[.slice A128_4 ((rd_T33 l0 0).f4).length c128_4, .int .i64 x22_2, .int .i64 (-1)] rfl (by (try simp only [List.map_toArray, List.map_cons, List.map_nil]); first | done | rfl | (simp only [List.length_drop, List.length_take]; rfl)) ?_; (with_reducible refine (spec_DrawParam.calls _ _ ((rd_T33 l0 0).f4) x22_2 (-1) t129 _ ?side1 ?side2 A9.out).mono ?_); (case side1 => repeat (first | exact (Kd.C_below HR128_4.out HB.out) | (with_reducible refine Kd.C_alloc ?_ _) | (with_reducible refine Kd.C_drewN ?_ _) | (with_reducible refine Kd.C_drew ?_))); (case side2 => exact HC128_4.out); rintro e w' ⟨rfl, ⟨nd, rfl⟩⟩; refine ⟨_, rfl, ?_⟩) | ((with_reducible refine gate_builtin (b := .append) (xs := #[.tmp 25, .tmp 32]) rfl ?_); at_builtin; refine Kd.R_append (Kd.int .i64) (w0 := w) w.heap.size rfl (.tmp 25) (.tmp 32) 22 2 (.int .i64 0) 8 rfl Tryd.underlying22 info2 rfl (by decide) (by omega) u5 x5_2 t129 [.int .i64 t129] (fun _ => True) (fun _ => False) rfl rfl ?aP (fun _ hk => hk.elim) ?aF ?aO ?aB ?aS ?aL ?_; (case aP => exact rfl); (case aB => exact (by repeat (first | (with_reducible first | exact HB.out | apply below_alloc | apply pw_below_drewN | apply below_drew1) | exact HB.out))); (case aF => exact (fun _ _ => trivial)); (case aO => exact (by (with_reducible repeat (first | apply Kd.R_alloc | apply Kd.R_drewN | apply Kd.R_drew)); exact HO_5.out)); (case aS => exact (below_size (by repeat (first | (with_reducible first | exact HB.out | apply below_alloc | apply pw_below_drewN | apply below_drew1) | exact HB.out)))); (case aL => have := LMc10.out; omega); intro v131 w11 ho hb hg hat; rw [← Ny130.out] at ho; have n0_ := Aside0.mk (hb); have n1_ := Aside0.mk (ho); clear HB; clear HO_5; have HB := n0_; have HO132 := n1_; clear n0_ n1_; clear ho hb hg hat))
                    go_roundg k2
                    case measure => have := HJ1.out; have := HK2.out; omega
                    case rel => exact ⟨(y130), (wrap64 (x22_2 + 1)), (by first | rfl | (simp; done) | (simp [*]; done)), H', ⟨by have := HJ1.out; have := HK2.out; omega⟩, ⟨by (with_reducible repeat (first | apply Kd.R_alloc | apply Kd.R_drewN | apply Kd.R_drew)); exact HO132.out⟩, ⟨by repeat (first | (with_reducible first | exact HB.out | apply below_alloc | apply pw_below_drewN | apply below_drew1) | exact HB.out)⟩⟩
                  · rw [if_neg c10] at H
                    exact absurd H (by simp)
                · rw [if_neg c8] at H
                  exact absurd H (by simp)
              · rw [if_neg c7] at H
                have c7b0 : decide (x22_2 < (((rd_T33 l0 0).f4).length : Int)) = false := decide_eq_false c7
                clear c7
                by_cases c12 : 0 < (l0.length : Int)
                · rw [if_pos c12] at H
                  have c12b0 : decide (0 < (l0.length : Int)) = true := decide_eq_true c12
                  have c12b1 : decide (0 < l0.length) = true := decide_eq_true (by omega)
                  clear c12
                  simp only [Option.some.injEq, Prod.mk.injEq] at H
                  obtain ⟨rfl, rfl, rfl⟩ := H
                  have p133 : 0 ≤ (0 : Int) := (by omega)
                  have q133 : 0 < (l0.length : Int) := of_decide_eq_true (by first | (with_reducible assumption) | assumption)
                  obtain ⟨ad133, A133_4, c133_4, A133_5, c133_5, e133, hx133_0, hx133_1, hx133_2, hx133_3, hx133_4, hx133_5, hl133_4, hi133_4, hl133_5, hi133_5⟩ := at_T33 HR0.out 0 p133 q133
                  obtain rfl : ad127 = ad133 := (by injection e133)
                  have qi133 : (0 < l0.length) = True := eq_true (by omega)
                  (try rw [show ((0 : Int)).toNat = 0 from rfl] at hx133_0)
                  (try rw [show 0 * 6 = 0 from rfl] at hx133_0)
                  (try rw [Addr.add_zero'] at hx133_0)
                  (try rw [show ((0 : Int)).toNat = 0 from rfl] at hx133_1)
                  (try rw [show 0 * 6 = 0 from rfl] at hx133_1)
                  (try rw [Addr.add_zero'] at hx133_1)
                  (try rw [show ((0 : Int)).toNat = 0 from rfl] at hx133_2)
                  (try rw [show 0 * 6 = 0 from rfl] at hx133_2)
                  (try rw [Addr.add_zero'] at hx133_2)
                  (try rw [show ((0 : Int)).toNat = 0 from rfl] at hx133_3)
                  (try rw [show 0 * 6 = 0 from rfl] at hx133_3)
                  (try rw [Addr.add_zero'] at hx133_3)
                  (try rw [show ((0 : Int)).toNat = 0 from rfl] at hx133_4)
                  (try rw [show 0 * 6 = 0 from rfl] at hx133_4)
                  (try rw [Addr.add_zero'] at hx133_4)
                  (try rw [show ((0 : Int)).toNat = 0 from rfl] at hx133_5)
                  (try rw [show 0 * 6 = 0 from rfl] at hx133_5)
                  (try rw [Addr.add_zero'] at hx133_5)
                  replace hx133_0 := (HB.out.cell (World.block_lt_of_cell? w _ hx133_0)).trans hx133_0
                  replace hx133_1 := (HB.out.cell (World.block_lt_of_cell? w _ hx133_1)).trans hx133_1
                  replace hx133_2 := (HB.out.cell (World.block_lt_of_cell? w _ hx133_2)).trans hx133_2
                  replace hx133_3 := (HB.out.cell (World.block_lt_of_cell? w _ hx133_3)).trans hx133_3
                  replace hx133_4 := (HB.out.cell (World.block_lt_of_cell? w _ hx133_4)).trans hx133_4
                  replace hx133_5 := (HB.out.cell (World.block_lt_of_cell? w _ hx133_5)).trans hx133_5
                  have HR133_4 := Aside0.mk hi133_4
                  have HC133_4 := Aside0.mk hl133_4
                  clear hi133_4 hl133_4
                  have HR133_5 := Aside0.mk hi133_5
                  have HC133_5 := Aside0.mk hl133_5
                  clear hi133_5 hl133_5
                  replace p133 := eq_true p133
                  replace q133 := eq_true q133
                  go_wp2
                  go_ret3
                  exact ⟨_, by first | rfl | (simp [errW_none, errW_some] <;> rfl) | (simp [*, errW_none, errW_some] <;> rfl), by (with_reducible repeat (first | apply Kd.R_alloc | apply Kd.R_drewN | apply Kd.R_drew)); exact HO_5.out, by repeat (first | (with_reducible first | exact HB.out | apply below_alloc | apply pw_below_drewN | apply below_drew1) | exact HB.out)⟩
                · rw [if_neg c12] at H
                  exact absurd H (by simp)
        · rw [if_neg c6] at H
          exact absurd H (by simp)
end Go.Proofs.YtkklhlakklcnbaaDoor.Y
end
section
namespace Go.Proofs.YtkklhlakklcnbaaDoor.Y
open Go.RowKit Go.Proofs.YtkklhlakklcnbaaDoorW.PrintWords Go.Proofs.YtkklhlakklcnbaaDoorW.PrintLast Go.Proofs.YtkklhlakklcnbaaDoorW.PrintMore
attribute [local go_sem] max2_int min2_int max_two min_two max_three min_three max_four min_four   -- for this text's walks alone
set_option linter.unusedVariables false
set_option linter.unusedSimpArgs false
set_option maxHeartbeats 8000000 in
set_option maxRecDepth 100000 in
theorem xansi_Command.calls (a0 : Int) (a1 : Int) (a2 : Int) (r : Int) (w : World) (h : xansi_Command.f a0 a1 a2 = some r) :
    Calls Tryd.prog 49 #[.int .u8 a0, .int .u8 a1, .int .u8 a2] w fun e w' => e = .returned (.int .i64 r) ∧ Drawn0 w w' := by
  have H : (some (Go.bits .or .i64 (Go.bits .or .i64 (wrap64 (a2)) (wrap64 ((wrap64 (a0)) * 256))) (wrap64 ((wrap64 (a1)) * 65536)))) = some r := h
  clear h
  obtain rfl := Option.some.inj H
  go_enter Tryd.func49, Tryd.ntmps49
  go_wp2
  go_ret
  exact ⟨by first | rfl | (simp; done) | (simp [*]; done), by repeat (first | exact Drawn0.refl _ | apply Drawn0.step)⟩
end Go.Proofs.YtkklhlakklcnbaaDoor.Y
end
section
namespace Go.Proofs.YtkklhlakklcnbaaDoor.Y
open Go.RowKit Go.Proofs.YtkklhlakklcnbaaDoorW.PrintWords Go.Proofs.YtkklhlakklcnbaaDoorW.PrintLast Go.Proofs.YtkklhlakklcnbaaDoorW.PrintMore
attribute [local go_sem] max2_int min2_int max_two min_two max_three min_three max_four min_four   -- for this text's walks alone
set_option linter.unusedVariables false
set_option linter.unusedSimpArgs false
set_option maxHeartbeats 8000000 in
set_option maxRecDepth 100000 in
theorem impl_Pack.calls (a0 : Int) (a1 : Int) (a2 : Int) (r : Int) (w : World) (h : impl_Pack.f a0 a1 a2 = some r) :
    Calls Tryd.prog 8 #[.int .u8 a0, .int .u8 a1, .int .u8 a2] w fun e w' => e = .returned (.int .i64 r) ∧ Drawn0 w w' := by
  have H : ((xansi_Command.f a0 a1 a2).bind fun t134 => (some t134)) = some r := h
  clear h
  replace H := Option.bind_eq_some_iff.mp H
  obtain ⟨t134, A40, H⟩ := H
  replace H : (some t134) = some r := H
  have A4 := Aside0.mk A40
  clear A40
  obtain rfl := Option.some.inj H
  go_enter Tryd.func8, Tryd.ntmps8
  go_wp2_with (first | ((with_reducible refine gate_callee (f := 49) rfl ?_); refine goesL_ (some 10) rfl rfl Tryd.func49 (by kernel_rfl) rfl #[.int .u8 a0, .int .u8 a1, .int .u8 a2] rfl (by (try simp only [List.map_toArray, List.map_cons, List.map_nil]); first | done | rfl | (simp only [List.length_drop, List.length_take]; rfl)) ?_; (with_reducible refine (xansi_Command.calls a0 a1 a2 t134 _ A4.out).mono ?_); rintro e w' ⟨rfl, ⟨nd, rfl⟩⟩; refine ⟨_, rfl, ?_⟩))
  go_ret
  exact ⟨by first | rfl | (simp; done) | (simp [*]; done), by repeat (first | exact Drawn0.refl _ | apply Drawn0.step)⟩
end Go.Proofs.YtkklhlakklcnbaaDoor.Y
end
section
namespace Go.Proofs.YtkklhlakklcnbaaDoor.Y
open Go.RowKit Go.Proofs.YtkklhlakklcnbaaDoorW.PrintWords Go.Proofs.YtkklhlakklcnbaaDoorW.PrintLast Go.Proofs.YtkklhlakklcnbaaDoorW.PrintMore
attribute [local go_sem] max2_int min2_int max_two min_two max_three min_three max_four min_four   -- for this text's walks alone
set_option linter.unusedVariables false
set_option linter.unusedSimpArgs false
set_option maxHeartbeats 8000000 in
set_option maxRecDepth 100000 in
theorem spec_SameInts.calls (k : Nat) (A0 : Option Addr) (c0 : Nat) (l0 : List Int) (A1 : Option Addr) (c1 : Nat) (l1 : List Int) (r : Bool) (w : World) (hr0 : Kd.C (Kd.int .i64) w A0 l0.length l0) (hc0 : l0.length ≤ c0) (hr1 : Kd.C (Kd.int .i64) w A1 l1.length l1) (hc1 : l1.length ≤ c1) (h : spec_SameInts.f k l0 l1 = some r) :
    Calls Tryd.prog 9 #[.slice A0 l0.length c0, .slice A1 l1.length c1] w fun e w' => e = .returned (.bool r) ∧ Drawn0 w w' := by
  have HR0 := Aside0.mk hr0
  have HC0 := Aside0.mk hc0
  clear hr0 hc0
  have HR1 := Aside0.mk hr1
  have HC1 := Aside0.mk hc1
  clear hr1 hc1
  have H : (if (l0.length : Int) = (l1.length : Int) then (spec_SameInts.l0 k l0 l1 (l0.length : Int) 0) else (some false)) = some r := h
  clear h
  by_cases c3 : (l0.length : Int) = (l1.length : Int)
  · rw [if_pos c3] at H
    have c3b0 : ((l0.length : Int) == (l1.length : Int)) = true := beq_iff_eq.mpr c3
    have c3b1 : ((l0.length : Int) != (l1.length : Int)) = false := bne_eq_false_iff_eq.mpr c3
    have c3b2 : (l0.length == l1.length) = true := by first | simpa using c3 | (simp at c3 ⊢; omega)
    clear c3
    have H' := Aside0.mk H
    clear H
    go_enter Tryd.func9, Tryd.ntmps9
    go_wp2
    repeat (go_quiet (fail); try go_wp2)
    go_loopg [13] k (fun kq v13 w' => ∃ (x13_1 : Int), v13 = .int .i64 x13_1 ∧ Aside0 (spec_SameInts.l0 kq l0 l1 (l0.length : Int) x13_1 = some r) ∧ Aside0 (kq ≤ k) ∧ Drawn0 w w')
    case atStart => exact ⟨(0), (by first | rfl | (simp; done) | (simp [*]; done)), H', ⟨Nat.le_refl _⟩, by repeat (first | exact Drawn0.refl _ | apply Drawn0.step)⟩
    case round =>
      clear H'
      try clear c1
      try clear p2
      try clear c3
      try clear c3b0
      try clear c3b1
      try clear c3b2
      obtain ⟨x13_1, rfl, HA, HK1, ⟨m1, rfl⟩⟩ := hrel
      cases gk with
      | zero => exact absurd HA.out (by simp [spec_SameInts.l0])
      | succ k1 =>
        have H := HA.out
        clear HA
        simp only [spec_SameInts.l0] at H
        by_cases c4 : x13_1 < (l0.length : Int)
        · rw [if_pos c4] at H
          have c4b0 : decide (x13_1 < (l0.length : Int)) = true := decide_eq_true c4
          clear c4
          by_cases c5 : 0 ≤ x13_1
          · rw [if_pos c5] at H
            have c5b0 : decide (0 ≤ x13_1) = true := decide_eq_true c5
            clear c5
            by_cases c6 : x13_1 < (l0.length : Int)
            · rw [if_pos c6] at H
              have c6b0 : decide (x13_1 < (l0.length : Int)) = true := decide_eq_true c6
              clear c6
              by_cases c7 : x13_1 < (l1.length : Int)
              · rw [if_pos c7] at H
                have c7b0 : decide (x13_1 < (l1.length : Int)) = true := decide_eq_true c7
                clear c7
                by_cases c8 : (rd l0 x13_1) = (rd l1 x13_1)
                · rw [if_pos c8] at H
                  have c8b0 : ((rd l0 x13_1) == (rd l1 x13_1)) = true := beq_iff_eq.mpr c8
                  have c8b1 : ((rd l0 x13_1) != (rd l1 x13_1)) = false := bne_eq_false_iff_eq.mpr c8
                  clear c8
                  have H' := Aside0.mk H
                  clear H
                  have p135 : 0 ≤ (x13_1 : Int) := of_decide_eq_true (by first | (with_reducible assumption) | assumption)
                  have q135 : x13_1 < (l0.length : Int) := of_decide_eq_true (by first | (with_reducible assumption) | assumption)
                  obtain ⟨ad135, e135, hx135_0⟩ := Kd.at_int HR0.out x13_1 p135 q135
                  cases e135
                  replace p135 := eq_true p135
                  replace q135 := eq_true q135
                  have p136 : 0 ≤ (x13_1 : Int) := of_decide_eq_true (by first | (with_reducible assumption) | assumption)
                  have q136 : x13_1 < (l1.length : Int) := of_decide_eq_true (by first | (with_reducible assumption) | assumption)
                  obtain ⟨ad136, e136, hx136_0⟩ := Kd.at_int HR1.out x13_1 p136 q136
                  cases e136
                  replace p136 := eq_true p136
                  replace q136 := eq_true q136
                  go_wp2
                  repeat (go_quiet (fail); try go_wp2)
                  go_roundg k1
                  case measure => have := HK1.out; omega
                  case rel => exact ⟨(wrap64 (x13_1 + 1)), (by first | rfl | (simp; done) | (simp [*]; done)), H', ⟨by have := HK1.out; omega⟩, by repeat (first | exact Drawn0.refl _ | apply Drawn0.step)⟩
                · rw [if_neg c8] at H
                  have c8b0 : ((rd l0 x13_1) == (rd l1 x13_1)) = false := beq_eq_false_iff_ne.mpr c8
                  have c8b1 : ((rd l0 x13_1) != (rd l1 x13_1)) = true := bne_iff_ne.mpr c8
                  obtain rfl := Option.some.inj H
                  have p135 : 0 ≤ (x13_1 : Int) := of_decide_eq_true (by first | (with_reducible assumption) | assumption)
                  have q135 : x13_1 < (l0.length : Int) := of_decide_eq_true (by first | (with_reducible assumption) | assumption)
                  obtain ⟨ad135, e135, hx135_0⟩ := Kd.at_int HR0.out x13_1 p135 q135
                  cases e135
                  replace p135 := eq_true p135
                  replace q135 := eq_true q135
                  have p136 : 0 ≤ (x13_1 : Int) := of_decide_eq_true (by first | (with_reducible assumption) | assumption)
                  have q136 : x13_1 < (l1.length : Int) := of_decide_eq_true (by first | (with_reducible assumption) | assumption)
                  obtain ⟨ad136, e136, hx136_0⟩ := Kd.at_int HR1.out x13_1 p136 q136
                  cases e136
                  replace p136 := eq_true p136
                  replace q136 := eq_true q136
                  go_wp2
                  repeat (go_quiet (fail); try go_wp2)
                  go_ret
                  exact ⟨by first | rfl | (simp; done) | (simp [*]; done), by repeat (first | exact Drawn0.refl _ | apply Drawn0.step)⟩
              · rw [if_neg c7] at H
                exact absurd H (by simp)
            · rw [if_neg c6] at H
              exact absurd H (by simp)
          · rw [if_neg c5] at H
            exact absurd H (by simp)
        · rw [if_neg c4] at H
          have c4b0 : decide (x13_1 < (l0.length : Int)) = false := decide_eq_false c4
          clear c4
          obtain rfl := Option.some.inj H
          go_wp2
          repeat (go_quiet (fail); try go_wp2)
          go_ret
          exact ⟨by first | rfl | (simp; done) | (simp [*]; done), by repeat (first | exact Drawn0.refl _ | apply Drawn0.step)⟩
  · rw [if_neg c3] at H
    have c3b0 : ((l0.length : Int) == (l1.length : Int)) = false := beq_eq_false_iff_ne.mpr c3
    have c3b1 : ((l0.length : Int) != (l1.length : Int)) = true := bne_iff_ne.mpr c3
    have c3b2 : (l0.length == l1.length) = false := by first | simpa using c3 | (simp at c3 ⊢; omega)
    obtain rfl := Option.some.inj H
    go_enter Tryd.func9, Tryd.ntmps9
    go_wp2
    repeat (go_quiet (fail); try go_wp2)
    go_ret
    exact ⟨by first | rfl | (simp; done) | (simp [*]; done), by repeat (first | exact Drawn0.refl _ | apply Drawn0.step)⟩
end Go.Proofs.YtkklhlakklcnbaaDoor.Y
end
