/- Texts of this claim, joined: Y31 Y32 Y33 Y34 XLawCursor. Of each, what the claim uses. -/
import Derived.Test.YtjkpelaeelihhaaGreatDoorRRKCursora
section
namespace Go.Proofs.YtjkpelaeelihhaaGreatDoorRR.Y
open Go.RowKit Go.Proofs.YtjkpelaeelihhaaGreatDoorRRW.PrintWords Go.Proofs.YtjkpelaeelihhaaGreatDoorRRW.PrintLast Go.Proofs.YtjkpelaeelihhaaGreatDoorRRW.PrintMore
attribute [local go_sem] max2_int min2_int max_two min_two max_three min_three max_four min_four   -- for this text's walks alone
set_option linter.unusedVariables false
set_option linter.unusedSimpArgs false
set_option maxHeartbeats 8000000 in
set_option maxRecDepth 100000 in
theorem spec_DrawNumbers.calls (k : Nat) (A0 : Option Addr) (c0 : Nat) (l0 : List (S49)) (r1 : Int) (r2 : List Int) (r3 : Bool) (w : World) (hr0 : Kd.C k49 w A0 l0.length l0) (hc0 : l0.length ≤ c0) (h : spec_DrawNumbers.f k l0 = some (r1, r2, r3)) :
    Calls Tryz.prog 15 #[.slice A0 l0.length c0] w fun e w' => ∃ v1_ : Value, e = .returned (.tuple #[.int .i64 r1, v1_, .bool r3]) ∧ Kd.R (Kd.int .i64) 2 w' w.heap.size (fun _ => True) v1_ r2 ∧ Below w.heap.size w w' := by
  have HR0 := Aside0.mk hr0
  have HC0 := Aside0.mk hc0
  clear hr0 hc0
  have HB := Aside0.mk (Below.refl w.heap.size w)
  have H : (if (l0.length : Int) = 1 then (if 0 < (l0.length : Int) then (spec_DrawNumbers.j0 k l0 (((rd_T49 l0 0).f0) != 2)) else (none)) else (spec_DrawNumbers.j0 k l0 true)) = some (r1, r2, r3) := h
  clear h
  have HC2 := Aside0.mk H
  clear H
  go_enter Tryz.func15, Tryz.ntmps15
  go_upto_region 1 with (fail)
  go_cut [16] (fun v16 wc => ∃ (kq : Nat) (x16_1 : Bool), v16 = .bool x16_1 ∧ Aside0 (spec_DrawNumbers.j0 kq l0 x16_1 = some (r1, r2, r3)) ∧ Aside0 (kq ≤ k) ∧ Aside0 (Below w.heap.size w wc))
  case first =>
    have H := HC2.out
    clear HC2
    by_cases c3 : (l0.length : Int) = 1
    · rw [if_pos c3] at H
      have c3b0 : ((l0.length : Int) == 1) = true := beq_iff_eq.mpr c3
      have c3b1 : ((l0.length : Int) != 1) = false := bne_eq_false_iff_eq.mpr c3
      clear c3
      (first | rw [c3b0] | (simp only [i64_w, i32_w]; rw [c3b0]) | skip)
      by_cases c4 : 0 < (l0.length : Int)
      · rw [if_pos c4] at H
        have c4b0 : decide (0 < (l0.length : Int)) = true := decide_eq_true c4
        have c4b1 : decide (0 < l0.length) = true := decide_eq_true (by omega)
        clear c4
        have H' := Aside0.mk H
        clear H
        have p213 : 0 ≤ (0 : Int) := (by omega)
        have q213 : 0 < (l0.length : Int) := of_decide_eq_true (by first | (with_reducible assumption) | assumption)
        obtain ⟨ad213, A213_4, c213_4, A213_5, c213_5, e213, hx213_0, hx213_1, hx213_2, hx213_3, hx213_4, hx213_5, hl213_4, hi213_4, hl213_5, hi213_5⟩ := at_T49 HR0.out 0 p213 q213
        cases e213
        have qi213 : (0 < l0.length) = True := eq_true (by omega)
        (try rw [show ((0 : Int)).toNat = 0 from rfl] at hx213_0)
        (try rw [show 0 * 6 = 0 from rfl] at hx213_0)
        (try rw [Addr.add_zero'] at hx213_0)
        (try rw [show ((0 : Int)).toNat = 0 from rfl] at hx213_1)
        (try rw [show 0 * 6 = 0 from rfl] at hx213_1)
        (try rw [Addr.add_zero'] at hx213_1)
        (try rw [show ((0 : Int)).toNat = 0 from rfl] at hx213_2)
        (try rw [show 0 * 6 = 0 from rfl] at hx213_2)
        (try rw [Addr.add_zero'] at hx213_2)
        (try rw [show ((0 : Int)).toNat = 0 from rfl] at hx213_3)
        (try rw [show 0 * 6 = 0 from rfl] at hx213_3)
        (try rw [Addr.add_zero'] at hx213_3)
        (try rw [show ((0 : Int)).toNat = 0 from rfl] at hx213_4)
        (try rw [show 0 * 6 = 0 from rfl] at hx213_4)
        (try rw [Addr.add_zero'] at hx213_4)
        (try rw [show ((0 : Int)).toNat = 0 from rfl] at hx213_5)
        (try rw [show 0 * 6 = 0 from rfl] at hx213_5)
        (try rw [Addr.add_zero'] at hx213_5)
        replace hx213_0 := (HB.out.cell (World.block_lt_of_cell? w _ hx213_0)).trans hx213_0
        replace hx213_1 := (HB.out.cell (World.block_lt_of_cell? w _ hx213_1)).trans hx213_1
        replace hx213_2 := (HB.out.cell (World.block_lt_of_cell? w _ hx213_2)).trans hx213_2
        replace hx213_3 := (HB.out.cell (World.block_lt_of_cell? w _ hx213_3)).trans hx213_3
        replace hx213_4 := (HB.out.cell (World.block_lt_of_cell? w _ hx213_4)).trans hx213_4
        replace hx213_5 := (HB.out.cell (World.block_lt_of_cell? w _ hx213_5)).trans hx213_5
        have HR213_4 := Aside0.mk hi213_4
        have HC213_4 := Aside0.mk hl213_4
        clear hi213_4 hl213_4
        have HR213_5 := Aside0.mk hi213_5
        have HC213_5 := Aside0.mk hl213_5
        clear hi213_5 hl213_5
        replace p213 := eq_true p213
        replace q213 := eq_true q213
        go_wp2
        go_meet
        case rel => exact ⟨_, ((((rd_T49 l0 0).f0) != 2)), (by first | rfl | (simp; done) | (simp [*]; done)), H', ⟨by first | omega | exact Nat.le_refl _⟩, ⟨by repeat (first | (with_reducible first | exact HB.out | apply below_alloc | apply pw_below_drewN | apply below_drew1) | exact HB.out)⟩⟩
      · rw [if_neg c4] at H
        exact absurd H (by simp)
    · rw [if_neg c3] at H
      have c3b0 : ((l0.length : Int) == 1) = false := beq_eq_false_iff_ne.mpr c3
      have c3b1 : ((l0.length : Int) != 1) = true := bne_iff_ne.mpr c3
      (first | rw [c3b0] | (simp only [i64_w, i32_w]; rw [c3b0]) | skip)
      have H' := Aside0.mk H
      clear H
      go_wp2
      go_meet
      case rel => exact ⟨_, (true), (by first | rfl | (simp; done) | (simp [*]; done)), H', ⟨by first | omega | exact Nat.le_refl _⟩, ⟨by repeat (first | (with_reducible first | exact HB.out | apply below_alloc | apply pw_below_drewN | apply below_drew1) | exact HB.out)⟩⟩
  case rest =>
    clear HC2
    try clear c1
    try clear c2
    try clear p2
    try clear q2
    try clear hx2
    try clear qi2
    try clear c3
    try clear c3b0
    try clear c3b1
    try clear c4
    try clear c4b0
    try clear c4b1
    try clear hx213_0
    try clear hx213_1
    try clear hx213_2
    try clear hx213_3
    try clear hx213_4
    try clear hx213_5
    try clear p213
    try clear q213
    obtain ⟨kq, x16_1, rfl, HA, HJ1, HB⟩ := hcut
    cases kq with
    | zero => exact absurd HA.out (by simp [spec_DrawNumbers.j0])
    | succ kj1 =>
      have H := HA.out
      clear HA
      simp only [spec_DrawNumbers.j0] at H
      by_cases c5 : x16_1 = true
      · subst c5
        have H1 : (some (0, ([] : List Int), false)) = some (r1, r2, r3) := by rw [if_pos rfl] at H; exact H
        clear H
        have H := H1
        clear H1
        simp only [Option.some.injEq, Prod.mk.injEq] at H
        obtain ⟨rfl, rfl, rfl⟩ := H
        go_wp2
        go_ret3
        exact ⟨_, by first | rfl | (simp [errW_none, errW_some] <;> rfl) | (simp [*, errW_none, errW_some] <;> rfl), by first | exact Kd.R_nil _ _ _ _ _ | exact Kd.N_nil _ _ _ _ _ | exact Kd.V_nil _ _ _ _ _ | exact Kd.Q_nil _ _ _ _ _ | exact Kd.S_nil _ _ _ _ _, by repeat (first | (with_reducible first | exact HB.out | apply below_alloc | apply pw_below_drewN | apply below_drew1) | exact HB.out)⟩
      · replace c5 := Bool.eq_false_iff.mpr c5
        subst c5
        have H1 : (if 0 < (l0.length : Int) then (spec_DrawNumbers.l0 kj1 l0 ([] : List Int) (((rd_T49 l0 0).f4).length : Int) 0) else (none)) = some (r1, r2, r3) := by rw [if_neg (show ¬ (false = true) by decide)] at H; exact H
        clear H
        have H := H1
        clear H1
        by_cases c6 : 0 < (l0.length : Int)
        · rw [if_pos c6] at H
          have c6b0 : decide (0 < (l0.length : Int)) = true := decide_eq_true c6
          have c6b1 : decide (0 < l0.length) = true := decide_eq_true (by omega)
          clear c6
          have H' := Aside0.mk H
          clear H
          have p214 : 0 ≤ (0 : Int) := (by omega)
          have q214 : 0 < (l0.length : Int) := of_decide_eq_true (by first | (with_reducible assumption) | assumption)
          obtain ⟨ad214, A214_4, c214_4, A214_5, c214_5, e214, hx214_0, hx214_1, hx214_2, hx214_3, hx214_4, hx214_5, hl214_4, hi214_4, hl214_5, hi214_5⟩ := at_T49 HR0.out 0 p214 q214
          cases e214
          have qi214 : (0 < l0.length) = True := eq_true (by omega)
          (try rw [show ((0 : Int)).toNat = 0 from rfl] at hx214_0)
          (try rw [show 0 * 6 = 0 from rfl] at hx214_0)
          (try rw [Addr.add_zero'] at hx214_0)
          (try rw [show ((0 : Int)).toNat = 0 from rfl] at hx214_1)
          (try rw [show 0 * 6 = 0 from rfl] at hx214_1)
          (try rw [Addr.add_zero'] at hx214_1)
          (try rw [show ((0 : Int)).toNat = 0 from rfl] at hx214_2)
          (try rw [show 0 * 6 = 0 from rfl] at hx214_2)
          (try rw [Addr.add_zero'] at hx214_2)
          (try rw [show ((0 : Int)).toNat = 0 from rfl] at hx214_3)
          (try rw [show 0 * 6 = 0 from rfl] at hx214_3)
          (try rw [Addr.add_zero'] at hx214_3)
          (try rw [show ((0 : Int)).toNat = 0 from rfl] at hx214_4)
          (try rw [show 0 * 6 = 0 from rfl] at hx214_4)
          (try rw [Addr.add_zero'] at hx214_4)
          (try rw [show ((0 : Int)).toNat = 0 from rfl] at hx214_5)
          (try rw [show 0 * 6 = 0 from rfl] at hx214_5)
          (try rw [Addr.add_zero'] at hx214_5)
          replace hx214_0 := (HB.out.cell (World.block_lt_of_cell? w _ hx214_0)).trans hx214_0
          replace hx214_1 := (HB.out.cell (World.block_lt_of_cell? w _ hx214_1)).trans hx214_1
          replace hx214_2 := (HB.out.cell (World.block_lt_of_cell? w _ hx214_2)).trans hx214_2
          replace hx214_3 := (HB.out.cell (World.block_lt_of_cell? w _ hx214_3)).trans hx214_3
          replace hx214_4 := (HB.out.cell (World.block_lt_of_cell? w _ hx214_4)).trans hx214_4
          replace hx214_5 := (HB.out.cell (World.block_lt_of_cell? w _ hx214_5)).trans hx214_5
          have HR214_4 := Aside0.mk hi214_4
          have HC214_4 := Aside0.mk hl214_4
          clear hi214_4 hl214_4
          have HR214_5 := Aside0.mk hi214_5
          have HC214_5 := Aside0.mk hl214_5
          clear hi214_5 hl214_5
          replace p214 := eq_true p214
          replace q214 := eq_true q214
          go_wp2
          go_loopg [5, 22] kj1 (fun kq v5 v22 w' => ∃ (x5_2 : List Int) (x22_2 : Int), v22 = .int .i64 x22_2 ∧ Aside0 (spec_DrawNumbers.l0 kq l0 x5_2 (((rd_T49 l0 0).f4).length : Int) x22_2 = some (r1, r2, r3)) ∧ Aside0 (kq ≤ kj1) ∧ Aside0 (Kd.R (Kd.int .i64) 2 w' w.heap.size (fun _ => True) v5 x5_2) ∧ Aside0 (Below w.heap.size w w'))
          case atStart => exact ⟨(([] : List Int)), (0), (by first | rfl | (simp; done) | (simp [*]; done)), H', ⟨Nat.le_refl _⟩, ⟨by first | exact Kd.R_nil _ _ _ _ _ | exact Kd.N_nil _ _ _ _ _ | exact Kd.V_nil _ _ _ _ _ | exact Kd.Q_nil _ _ _ _ _ | exact Kd.S_nil _ _ _ _ _⟩, ⟨by repeat (first | (with_reducible first | exact HB.out | apply below_alloc | apply pw_below_drewN | apply below_drew1) | exact HB.out)⟩⟩
          case round =>
            clear H'
            try clear c1
            try clear c2
            try clear p2
            try clear q2
            try clear hx2
            try clear qi2
            try clear c3
            try clear c3b0
            try clear c3b1
            try clear c4
            try clear c4b0
            try clear c4b1
            try clear c5
            try clear c6
            try clear c6b0
            try clear c6b1
            try clear hx213_0
            try clear hx213_1
            try clear hx213_2
            try clear hx213_3
            try clear hx213_4
            try clear hx213_5
            try clear hx214_0
            try clear hx214_1
            try clear hx214_2
            try clear hx214_3
            try clear hx214_4
            try clear hx214_5
            try clear p2
            try clear p213
            try clear p214
            try clear q2
            try clear q213
            try clear q214
            obtain ⟨x5_2, x22_2, rfl, HA, HK2, HO_5, HB⟩ := hrel
            cases gk with
            | zero => exact absurd HA.out (by simp [spec_DrawNumbers.l0])
            | succ k2 =>
              have H := HA.out
              clear HA
              simp only [spec_DrawNumbers.l0] at H
              by_cases c7 : x22_2 < (((rd_T49 l0 0).f4).length : Int)
              · rw [if_pos c7] at H
                have c7b0 : decide (x22_2 < (((rd_T49 l0 0).f4).length : Int)) = true := decide_eq_true c7
                clear c7
                by_cases c8 : 0 < (l0.length : Int)
                · rw [if_pos c8] at H
                  have c8b0 : decide (0 < (l0.length : Int)) = true := decide_eq_true c8
                  have c8b1 : decide (0 < l0.length) = true := decide_eq_true (by omega)
                  clear c8
                  replace H := Option.bind_eq_some_iff.mp H
                  obtain ⟨t216, A90, H⟩ := H
                  replace H : (if x5_2.length < 17592186044416 then (spec_DrawNumbers.l0 k2 l0 (x5_2 ++ [t216]) (((rd_T49 l0 0).f4).length : Int) (wrap64 (x22_2 + 1))) else (none)) = some (r1, r2, r3) := H
                  have A9 := Aside0.mk A90
                  clear A90
                  by_cases c10 : x5_2.length < 17592186044416
                  · rw [if_pos c10] at H
                    have LMc10 := Aside0.mk c10
                    clear c10
                    obtain ⟨y217, hy217⟩ : ∃ y_ : List Int, y_ = (x5_2 ++ [t216]) := ⟨_, rfl⟩
                    replace H : (spec_DrawNumbers.l0 k2 l0 y217 (((rd_T49 l0 0).f4).length : Int) (wrap64 (x22_2 + 1))) = some (r1, r2, r3) := by first | (rw [hy217]; with_reducible exact H) | (have H2_ := (Option.bind_some _ _).symm.trans H; rw [hy217]; with_reducible exact H2_) | (have H2_ := (Option.bind_some _ _).symm.trans H; with_reducible exact H2_) | with_reducible exact H | (rw [hy217]; exact H) | exact H
                    have Ny217 := Aside0.mk hy217
                    clear hy217
                    have H' := Aside0.mk H
                    clear H
                    have p215 : 0 ≤ (0 : Int) := (by omega)
                    have q215 : 0 < (l0.length : Int) := of_decide_eq_true (by first | (with_reducible assumption) | assumption)
                    obtain ⟨ad215, A215_4, c215_4, A215_5, c215_5, e215, hx215_0, hx215_1, hx215_2, hx215_3, hx215_4, hx215_5, hl215_4, hi215_4, hl215_5, hi215_5⟩ := at_T49 HR0.out 0 p215 q215
                    obtain rfl : ad214 = ad215 := (by injection e215)
                    have qi215 : (0 < l0.length) = True := eq_true (by omega)
                    (try rw [show ((0 : Int)).toNat = 0 from rfl] at hx215_0)
                    (try rw [show 0 * 6 = 0 from rfl] at hx215_0)
                    (try rw [Addr.add_zero'] at hx215_0)
                    (try rw [show ((0 : Int)).toNat = 0 from rfl] at hx215_1)
                    (try rw [show 0 * 6 = 0 from rfl] at hx215_1)
                    (try rw [Addr.add_zero'] at hx215_1)
                    (try rw [show ((0 : Int)).toNat = 0 from rfl] at hx215_2)
                    (try rw [show 0 * 6 = 0 from rfl] at hx215_2)
                    (try rw [Addr.add_zero'] at hx215_2)
                    (try rw [show ((0 : Int)).toNat = 0 from rfl] at hx215_3)
                    (try rw [show 0 * 6 = 0 from rfl] at hx215_3)
                    (try rw [Addr.add_zero'] at hx215_3)
                    (try rw [show ((0 : Int)).toNat = 0 from rfl] at hx215_4)
                    (try rw [show 0 * 6 = 0 from rfl] at hx215_4)
                    (try rw [Addr.add_zero'] at hx215_4)
                    (try rw [show ((0 : Int)).toNat = 0 from rfl] at hx215_5)
                    (try rw [show 0 * 6 = 0 from rfl] at hx215_5)
                    (try rw [Addr.add_zero'] at hx215_5)
                    replace hx215_0 := (HB.out.cell (World.block_lt_of_cell? w _ hx215_0)).trans hx215_0
                    replace hx215_1 := (HB.out.cell (World.block_lt_of_cell? w _ hx215_1)).trans hx215_1
                    replace hx215_2 := (HB.out.cell (World.block_lt_of_cell? w _ hx215_2)).trans hx215_2
                    replace hx215_3 := (HB.out.cell (World.block_lt_of_cell? w _ hx215_3)).trans hx215_3
                    replace hx215_4 := (HB.out.cell (World.block_lt_of_cell? w _ hx215_4)).trans hx215_4
                    replace hx215_5 := (HB.out.cell (World.block_lt_of_cell? w _ hx215_5)).trans hx215_5
                    have HR215_4 := Aside0.mk hi215_4
                    have HC215_4 := Aside0.mk hl215_4
                    clear hi215_4 hl215_4
                    have HR215_5 := Aside0.mk hi215_5
                    have HC215_5 := Aside0.mk hl215_5
                    clear hi215_5 hl215_5
                    replace p215 := eq_true p215
                    replace q215 := eq_true q215
                    go_wp2_with (first | ((with_reducible refine gate_callee (f := 62) rfl ?_); refine goesL_ (some 31) rfl rfl Tryz.func62 (by kernel_rfl) rfl #[.slice A215_4 ((rd_T49 l0 0).f4).length c215_4, .int .i64 x22_2, .int .i64 (-1)] rfl (by (try simp only [List.map_toArray, List.map_cons, List.map_nil]); first | done | rfl | (simp only [List.length_drop, List.length_take]; rfl)) ?_; (with_reducible refine (spec_DrawParam.calls _ _ ((rd_T49 l0 0).f4) x22_2 (-1) t216 _ ?side1 ?side2 A9.out).mono ?_); (case side1 => repeat (first | exact (Kd.C_below HR215_4.out HB.out) | (with_reducible refine Kd.C_alloc ?_ _) | (with_reducible refine Kd.C_drewN ?_ _) | (with_reducible refine Kd.C_drew ?_))); (case side2 => exact HC215_4.out); rintro e w' ⟨rfl, ⟨nd, rfl⟩⟩; refine ⟨_, rfl, ?_⟩) | ((with_reducible refine gate_builtin (b := .append) (xs := #[.tmp 25, .tmp 32]) rfl ?_); at_builtin; refine Kd.R_append (Kd.int .i64) (w0 := w) w.heap.size rfl (.tmp 25) (.tmp 32) 35 2 (.int .i64 0) 8 rfl Tryz.underlying35 info2 rfl (by decide) (by omega) u5 x5_2 t216 [.int .i64 t216] (fun _ => True) (fun _ => False) rfl rfl ?aP (fun _ hk => hk.elim) ?aF ?aO ?aB ?aS ?aL ?_; (case aP => exact rfl); (case aB => exact (by repeat (first | (with_reducible first | exact HB.out | apply below_alloc | apply pw_below_drewN | apply below_drew1) | exact HB.out))); (case aF => exact (fun _ _ => trivial)); (case aO => exact (by (with_reducible repeat (first | apply Kd.R_alloc | apply Kd.R_drewN | apply Kd.R_drew)); exact HO_5.out)); (case aS => exact (below_size (by repeat (first | (with_reducible first | exact HB.out | apply below_alloc | apply pw_below_drewN | apply below_drew1) | exact HB.out)))); (case aL => have := LMc10.out; omega); intro v218 w11 ho hb hg hat; rw [← Ny217.out] at ho; have n0_ := Aside0.mk (hb); have n1_ := Aside0.mk (ho); clear HB; clear HO_5; have HB := n0_; have HO219 := n1_; clear n0_ n1_; clear ho hb hg hat))
                    go_roundg k2
                    case measure => have := HJ1.out; have := HK2.out; omega
                    case rel => exact ⟨(y217), (wrap64 (x22_2 + 1)), (by first | rfl | (simp; done) | (simp [*]; done)), H', ⟨by have := HJ1.out; have := HK2.out; omega⟩, ⟨by (with_reducible repeat (first | apply Kd.R_alloc | apply Kd.R_drewN | apply Kd.R_drew)); exact HO219.out⟩, ⟨by repeat (first | (with_reducible first | exact HB.out | apply below_alloc | apply pw_below_drewN | apply below_drew1) | exact HB.out)⟩⟩
                  · rw [if_neg c10] at H
                    exact absurd H (by simp)
                · rw [if_neg c8] at H
                  exact absurd H (by simp)
              · rw [if_neg c7] at H
                have c7b0 : decide (x22_2 < (((rd_T49 l0 0).f4).length : Int)) = false := decide_eq_false c7
                clear c7
                by_cases c12 : 0 < (l0.length : Int)
                · rw [if_pos c12] at H
                  have c12b0 : decide (0 < (l0.length : Int)) = true := decide_eq_true c12
                  have c12b1 : decide (0 < l0.length) = true := decide_eq_true (by omega)
                  clear c12
                  simp only [Option.some.injEq, Prod.mk.injEq] at H
                  obtain ⟨rfl, rfl, rfl⟩ := H
                  have p220 : 0 ≤ (0 : Int) := (by omega)
                  have q220 : 0 < (l0.length : Int) := of_decide_eq_true (by first | (with_reducible assumption) | assumption)
                  obtain ⟨ad220, A220_4, c220_4, A220_5, c220_5, e220, hx220_0, hx220_1, hx220_2, hx220_3, hx220_4, hx220_5, hl220_4, hi220_4, hl220_5, hi220_5⟩ := at_T49 HR0.out 0 p220 q220
                  obtain rfl : ad214 = ad220 := (by injection e220)
                  have qi220 : (0 < l0.length) = True := eq_true (by omega)
                  (try rw [show ((0 : Int)).toNat = 0 from rfl] at hx220_0)
                  (try rw [show 0 * 6 = 0 from rfl] at hx220_0)
                  (try rw [Addr.add_zero'] at hx220_0)
                  (try rw [show ((0 : Int)).toNat = 0 from rfl] at hx220_1)
                  (try rw [show 0 * 6 = 0 from rfl] at hx220_1)
                  (try rw [Addr.add_zero'] at hx220_1)
                  (try rw [show ((0 : Int)).toNat = 0 from rfl] at hx220_2)
                  (try rw [show 0 * 6 = 0 from rfl] at hx220_2)
                  (try rw [Addr.add_zero'] at hx220_2)
                  (try rw [show ((0 : Int)).toNat = 0 from rfl] at hx220_3)
                  (try rw [show 0 * 6 = 0 from rfl] at hx220_3)
                  (try rw [Addr.add_zero'] at hx220_3)
                  (try rw [show ((0 : Int)).toNat = 0 from rfl] at hx220_4)
                  (try rw [show 0 * 6 = 0 from rfl] at hx220_4)
                  (try rw [Addr.add_zero'] at hx220_4)
                  (try rw [show ((0 : Int)).toNat = 0 from rfl] at hx220_5)
                  (try rw [show 0 * 6 = 0 from rfl] at hx220_5)
                  (try rw [Addr.add_zero'] at hx220_5)
                  replace hx220_0 := (HB.out.cell (World.block_lt_of_cell? w _ hx220_0)).trans hx220_0
                  replace hx220_1 := (HB.out.cell (World.block_lt_of_cell? w _ hx220_1)).trans hx220_1
                  replace hx220_2 := (HB.out.cell (World.block_lt_of_cell? w _ hx220_2)).trans hx220_2
                  replace hx220_3 := (HB.out.cell (World.block_lt_of_cell? w _ hx220_3)).trans hx220_3
                  replace hx220_4 := (HB.out.cell (World.block_lt_of_cell? w _ hx220_4)).trans hx220_4
                  replace hx220_5 := (HB.out.cell (World.block_lt_of_cell? w _ hx220_5)).trans hx220_5
                  have HR220_4 := Aside0.mk hi220_4
                  have HC220_4 := Aside0.mk hl220_4
                  clear hi220_4 hl220_4
                  have HR220_5 := Aside0.mk hi220_5
                  have HC220_5 := Aside0.mk hl220_5
                  clear hi220_5 hl220_5
                  replace p220 := eq_true p220
                  replace q220 := eq_true q220
                  go_wp2
                  go_ret3
                  exact ⟨_, by first | rfl | (simp [errW_none, errW_some] <;> rfl) | (simp [*, errW_none, errW_some] <;> rfl), by (with_reducible repeat (first | apply Kd.R_alloc | apply Kd.R_drewN | apply Kd.R_drew)); exact HO_5.out, by repeat (first | (with_reducible first | exact HB.out | apply below_alloc | apply pw_below_drewN | apply below_drew1) | exact HB.out)⟩
                · rw [if_neg c12] at H
                  exact absurd H (by simp)
        · rw [if_neg c6] at H
          exact absurd H (by simp)
end Go.Proofs.YtjkpelaeelihhaaGreatDoorRR.Y
end
section
namespace Go.Proofs.YtjkpelaeelihhaaGreatDoorRR.Y
open Go.RowKit Go.Proofs.YtjkpelaeelihhaaGreatDoorRRW.PrintWords Go.Proofs.YtjkpelaeelihhaaGreatDoorRRW.PrintLast Go.Proofs.YtjkpelaeelihhaaGreatDoorRRW.PrintMore
attribute [local go_sem] max2_int min2_int max_two min_two max_three min_three max_four min_four   -- for this text's walks alone
set_option linter.unusedVariables false
set_option linter.unusedSimpArgs false
set_option maxHeartbeats 8000000 in
set_option maxRecDepth 100000 in
theorem xansi_Command.calls (a0 : Int) (a1 : Int) (a2 : Int) (r : Int) (w : World) (h : xansi_Command.f a0 a1 a2 = some r) :
    Calls Tryz.prog 63 #[.int .u8 a0, .int .u8 a1, .int .u8 a2] w fun e w' => e = .returned (.int .i64 r) ∧ Drawn0 w w' := by
  have H : (some (Go.bits .or .i64 (Go.bits .or .i64 (wrap64 (a2)) (wrap64 ((wrap64 (a0)) * 256))) (wrap64 ((wrap64 (a1)) * 65536)))) = some r := h
  clear h
  obtain rfl := Option.some.inj H
  go_enter Tryz.func63, Tryz.ntmps63
  go_wp2
  go_ret
  exact ⟨by first | rfl | (simp; done) | (simp [*]; done), by repeat (first | exact Drawn0.refl _ | apply Drawn0.step)⟩
end Go.Proofs.YtjkpelaeelihhaaGreatDoorRR.Y
end
section
namespace Go.Proofs.YtjkpelaeelihhaaGreatDoorRR.Y
open Go.RowKit Go.Proofs.YtjkpelaeelihhaaGreatDoorRRW.PrintWords Go.Proofs.YtjkpelaeelihhaaGreatDoorRRW.PrintLast Go.Proofs.YtjkpelaeelihhaaGreatDoorRRW.PrintMore
attribute [local go_sem] max2_int min2_int max_two min_two max_three min_three max_four min_four   -- for this text's walks alone
set_option linter.unusedVariables false
set_option linter.unusedSimpArgs false
set_option maxHeartbeats 8000000 in
set_option maxRecDepth 100000 in
theorem impl_Pack.calls (a0 : Int) (a1 : Int) (a2 : Int) (r : Int) (w : World) (h : impl_Pack.f a0 a1 a2 = some r) :
    Calls Tryz.prog 16 #[.int .u8 a0, .int .u8 a1, .int .u8 a2] w fun e w' => e = .returned (.int .i64 r) ∧ Drawn0 w w' := by
  have H : ((xansi_Command.f a0 a1 a2).bind fun t221 => (some t221)) = some r := h
  clear h
  replace H := Option.bind_eq_some_iff.mp H
  obtain ⟨t221, A40, H⟩ := H
  replace H : (some t221) = some r := H
  have A4 := Aside0.mk A40
  clear A40
  obtain rfl := Option.some.inj H
  go_enter Tryz.func16, Tryz.ntmps16
  go_wp2_with (first | ((with_reducible refine gate_callee (f := 63) rfl ?_); refine goesL_ (some 10) rfl rfl Tryz.func63 (by kernel_rfl) rfl #[.int .u8 a0, .int .u8 a1, .int .u8 a2] rfl (by (try simp only [List.map_toArray, List.map_cons, List.map_nil]); first | done | rfl | (simp only [List.length_drop, List.length_take]; rfl)) ?_; (with_reducible refine (xansi_Command.calls a0 a1 a2 t221 _ A4.out).mono ?_); rintro e w' ⟨rfl, ⟨nd, rfl⟩⟩; refine ⟨_, rfl, ?_⟩))
  go_ret
  exact ⟨by first | rfl | (simp; done) | (simp [*]; done), by repeat (first | exact Drawn0.refl _ | apply Drawn0.step)⟩
end Go.Proofs.YtjkpelaeelihhaaGreatDoorRR.Y
end
section
namespace Go.Proofs.YtjkpelaeelihhaaGreatDoorRR.Y
open Go.RowKit Go.Proofs.YtjkpelaeelihhaaGreatDoorRRW.PrintWords Go.Proofs.YtjkpelaeelihhaaGreatDoorRRW.PrintLast Go.Proofs.YtjkpelaeelihhaaGreatDoorRRW.PrintMore
attribute [local go_sem] max2_int min2_int max_two min_two max_three min_three max_four min_four   -- for this text's walks alone
set_option linter.unusedVariables false
set_option linter.unusedSimpArgs false
set_option maxHeartbeats 8000000 in
set_option maxRecDepth 100000 in
theorem spec_SameInts.calls (k : Nat) (A0 : Option Addr) (c0 : Nat) (l0 : List Int) (A1 : Option Addr) (c1 : Nat) (l1 : List Int) (r : Bool) (w : World) (hr0 : Kd.C (Kd.int .i64) w A0 l0.length l0) (hc0 : l0.length ≤ c0) (hr1 : Kd.C (Kd.int .i64) w A1 l1.length l1) (hc1 : l1.length ≤ c1) (h : spec_SameInts.f k l0 l1 = some r) :
    Calls Tryz.prog 17 #[.slice A0 l0.length c0, .slice A1 l1.length c1] w fun e w' => e = .returned (.bool r) ∧ Drawn0 w w' := by
  have HR0 := Aside0.mk hr0
  have HC0 := Aside0.mk hc0
  clear hr0 hc0
  have HR1 := Aside0.mk hr1
  have HC1 := Aside0.mk hc1
  clear hr1 hc1
  have H : (if (l0.length : Int) = (l1.length : Int) then (spec_SameInts.l0 k l0 l1 (l0.length : Int) 0) else (some false)) = some r := h
  clear h
  by_cases c3 : (l0.length : Int) = (l1.length : Int)
  · rw [if_pos c3] at H
    have c3b0 : ((l0.length : Int) == (l1.length : Int)) = true := beq_iff_eq.mpr c3
    have c3b1 : ((l0.length : Int) != (l1.length : Int)) = false := bne_eq_false_iff_eq.mpr c3
    have c3b2 : (l0.length == l1.length) = true := by first | simpa using c3 | (simp at c3 ⊢; omega)
    clear c3
    have H' := Aside0.mk H
    clear H
    go_enter Tryz.func17, Tryz.ntmps17
    go_wp2
    repeat (go_quiet (fail); try go_wp2)
    go_loopg [13] k (fun kq v13 w' => ∃ (x13_1 : Int), v13 = .int .i64 x13_1 ∧ Aside0 (spec_SameInts.l0 kq l0 l1 (l0.length : Int) x13_1 = some r) ∧ Aside0 (kq ≤ k) ∧ Drawn0 w w')
    case atStart => exact ⟨(0), (by first | rfl | (simp; done) | (simp [*]; done)), H', ⟨Nat.le_refl _⟩, by repeat (first | exact Drawn0.refl _ | apply Drawn0.step)⟩
    case round =>
      clear H'
      try clear c1
      try clear p2
      try clear c3
      try clear c3b0
      try clear c3b1
      try clear c3b2
      obtain ⟨x13_1, rfl, HA, HK1, ⟨m1, rfl⟩⟩ := hrel
      cases gk with
      | zero => exact absurd HA.out (by simp [spec_SameInts.l0])
      | succ k1 =>
        have H := HA.out
        clear HA
        simp only [spec_SameInts.l0] at H
        by_cases c4 : x13_1 < (l0.length : Int)
        · rw [if_pos c4] at H
          have c4b0 : decide (x13_1 < (l0.length : Int)) = true := decide_eq_true c4
          clear c4
          by_cases c5 : 0 ≤ x13_1
          · rw [if_pos c5] at H
            have c5b0 : decide (0 ≤ x13_1) = true := decide_eq_true c5
            clear c5
            by_cases c6 : x13_1 < (l0.length : Int)
            · rw [if_pos c6] at H
              have c6b0 : decide (x13_1 < (l0.length : Int)) = true := decide_eq_true c6
              clear c6
              by_cases c7 : x13_1 < (l1.length : Int)
              · rw [if_pos c7] at H
                have c7b0 : decide (x13_1 < (l1.length : Int)) = true := decide_eq_true c7
                clear c7
                by_cases c8 : (rd l0 x13_1) = (rd l1 x13_1)
                · rw [if_pos c8] at H
                  have c8b0 : ((rd l0 x13_1) == (rd l1 x13_1)) = true := beq_iff_eq.mpr c8
                  have c8b1 : ((rd l0 x13_1) != (rd l1 x13_1)) = false := bne_eq_false_iff_eq.mpr c8
                  clear c8
                  have H' := Aside0.mk H
                  clear H
                  have p222 : 0 ≤ (x13_1 : Int) := of_decide_eq_true (by first | (with_reducible assumption) | assumption)
                  have q222 : x13_1 < (l0.length : Int) := of_decide_eq_true (by first | (with_reducible assumption) | assumption)
                  obtain ⟨ad222, e222, hx222_0⟩ := Kd.at_int HR0.out x13_1 p222 q222
                  cases e222
                  replace p222 := eq_true p222
                  replace q222 := eq_true q222
                  have p223 : 0 ≤ (x13_1 : Int) := of_decide_eq_true (by first | (with_reducible assumption) | assumption)
                  have q223 : x13_1 < (l1.length : Int) := of_decide_eq_true (by first | (with_reducible assumption) | assumption)
                  obtain ⟨ad223, e223, hx223_0⟩ := Kd.at_int HR1.out x13_1 p223 q223
                  cases e223
                  replace p223 := eq_true p223
                  replace q223 := eq_true q223
                  go_wp2
                  repeat (go_quiet (fail); try go_wp2)
                  go_roundg k1
                  case measure => have := HK1.out; omega
                  case rel => exact ⟨(wrap64 (x13_1 + 1)), (by first | rfl | (simp; done) | (simp [*]; done)), H', ⟨by have := HK1.out; omega⟩, by repeat (first | exact Drawn0.refl _ | apply Drawn0.step)⟩
                · rw [if_neg c8] at H
                  have c8b0 : ((rd l0 x13_1) == (rd l1 x13_1)) = false := beq_eq_false_iff_ne.mpr c8
                  have c8b1 : ((rd l0 x13_1) != (rd l1 x13_1)) = true := bne_iff_ne.mpr c8
                  obtain rfl := Option.some.inj H
                  have p222 : 0 ≤ (x13_1 : Int) := of_decide_eq_true (by first | (with_reducible assumption) | assumption)
                  have q222 : x13_1 < (l0.length : Int) := of_decide_eq_true (by first | (with_reducible assumption) | assumption)
                  obtain ⟨ad222, e222, hx222_0⟩ := Kd.at_int HR0.out x13_1 p222 q222
                  cases e222
                  replace p222 := eq_true p222
                  replace q222 := eq_true q222
                  have p223 : 0 ≤ (x13_1 : Int) := of_decide_eq_true (by first | (with_reducible assumption) | assumption)
                  have q223 : x13_1 < (l1.length : Int) := of_decide_eq_true (by first | (with_reducible assumption) | assumption)
                  obtain ⟨ad223, e223, hx223_0⟩ := Kd.at_int HR1.out x13_1 p223 q223
                  cases e223
                  replace p223 := eq_true p223
                  replace q223 := eq_true q223
                  go_wp2
                  repeat (go_quiet (fail); try go_wp2)
                  go_ret
                  exact ⟨by first | rfl | (simp; done) | (simp [*]; done), by repeat (first | exact Drawn0.refl _ | apply Drawn0.step)⟩
              · rw [if_neg c7] at H
                exact absurd H (by simp)
            · rw [if_neg c6] at H
              exact absurd H (by simp)
          · rw [if_neg c5] at H
            exact absurd H (by simp)
        · rw [if_neg c4] at H
          have c4b0 : decide (x13_1 < (l0.length : Int)) = false := decide_eq_false c4
          clear c4
          obtain rfl := Option.some.inj H
          go_wp2
          repeat (go_quiet (fail); try go_wp2)
          go_ret
          exact ⟨by first | rfl | (simp; done) | (simp [*]; done), by repeat (first | exact Drawn0.refl _ | apply Drawn0.step)⟩
  · rw [if_neg c3] at H
    have c3b0 : ((l0.length : Int) == (l1.length : Int)) = false := beq_eq_false_iff_ne.mpr c3
    have c3b1 : ((l0.length : Int) != (l1.length : Int)) = true := bne_iff_ne.mpr c3
    have c3b2 : (l0.length == l1.length) = false := by first | simpa using c3 | (simp at c3 ⊢; omega)
    obtain rfl := Option.some.inj H
    go_enter Tryz.func17, Tryz.ntmps17
    go_wp2
    repeat (go_quiet (fail); try go_wp2)
    go_ret
    exact ⟨by first | rfl | (simp; done) | (simp [*]; done), by repeat (first | exact Drawn0.refl _ | apply Drawn0.step)⟩
end Go.Proofs.YtjkpelaeelihhaaGreatDoorRR.Y
end
section
namespace Go.Proofs.YtjkpelaeelihhaaGreatDoorRR.Y
open Go.RowKit Go.Proofs.YtjkpelaeelihhaaGreatDoorRRW.PrintWords Go.Proofs.YtjkpelaeelihhaaGreatDoorRRW.PrintLast Go.Proofs.YtjkpelaeelihhaaGreatDoorRRW.PrintMore
set_option linter.unusedSimpArgs false
set_option linter.unusedVariables false
set_option maxRecDepth 100000
set_option maxHeartbeats 8000000
def laws_FnDrawCursor.f (l : List Op) (a : Int) : Option Bool := if 0 ≤ a ∧ a ≤ 255 then some true else none
theorem cut_last (t e sz : Nat) (ht : Tryz.prog.underlying t = some (.slice e)) (hsz : (Tryz.prog.info? e).map (·.size) = some sz) (A : Option Addr) (n c : Nat) :
    ∀ W : World, (Instr.slice t (.slice A (n + 1) c) (some (.int .i64 (n : Int))) none none).run Tryz.prog W = .ok (.slice (if c = n then A else A.map (·.add (n * sz))) 1 (c - n)) W := by
  obtain ⟨i, hi0, hi2⟩ := Option.map_eq_some_iff.1 hsz
  intro W
  have hel : Tryz.prog.elem t = e := by simp [Program.elem, ht]
  have hu : Tryz.prog.underlying t = some (.slice (Tryz.prog.elem t)) := by rw [hel]; exact ht
  rw [run_slice_l W t A (n + 1) c hu .i64 n (by omega) (by omega), hel]
  simp [sizeOf, typeInfo, hi0, hi2, sliced, Result.andThen]
theorem laws_FnDrawCursor.calls (A0 : Option Addr) (c0 : Nat) (l0 : List Op) (a1 : Int) (r : Bool) (w : World) (hT : XTab w) (hr0 : Kd.C k45 w A0 l0.length l0) (hc0 : l0.length ≤ c0) (h : laws_FnDrawCursor.f l0 a1 = some r) :
    Calls Tryz.prog 4 #[.slice A0 l0.length c0, .int .u8 a1] w fun e w' => e = .returned (.bool r) ∧ Below w.heap.size w w' := by
  unfold laws_FnDrawCursor.f at h
  split at h
  case isFalse => cases h
  rename_i ha
  obtain rfl := Option.some.inj h
  obtain ⟨b0, f0, f1⟩ := fits_f l0 8000000000 (by omega)
  have HI := Lib.hid (And.intro hT (And.intro hr0 (And.intro hc0 ha)))
  have HF := Lib.hid f1
  clear h hT hr0 hc0 ha f1
  go_enter Tryz.func4, Tryz.ntmps4
  go_wp2_with fail
  with_reducible refine (laws_zzFits3.calls 8000000000 _ _ l0 b0 _ HI.out.2.1 HI.out.2.2.1 f0).mono ?_
  rintro e w1 ⟨rfl, hb⟩
  have H1 := Lib.hid hb
  clear hb f0
  cases b0 with
  | false =>
    go_wp2_with fail
    go_ret
    exact ⟨rfl, H1.out⟩
  | true =>
    have HE := Lib.hid (fun (V : World) (hV : Below w.heap.size w V) => show Calls Tryz.prog 8 #[] V fun e w' => e = .returned (.bool true) ∧ Hid (Below w.heap.size w w') by
      refine (laws_drawAwake.calls true V (XTab.below HI.out.1 hV) awake).mono ?_
      rintro e w3 ⟨rfl, hb⟩
      exact ⟨rfl, below_step hV hb⟩)
    obtain ⟨b1, g0, g1⟩ := plan_f l0 (HF.out (by trivial)) 8000000000 (by omega)
    have HG := Lib.hid g1
    clear g1
    go_wp2_with fail
    with_reducible refine (spec_IsDrawPlan.calls 8000000000 _ _ l0 b1 _ (Kd.C_below HI.out.2.1 H1.out) HI.out.2.2.1 g0).mono ?_
    rintro e w2 ⟨rfl, hb⟩
    have H2 := Lib.hid (below_step H1.out hb)
    clear hb g0 H1
    cases b1 with
    | false =>
      go_wp2_with fail
      refine (HE.out _ H2.out).mono ?_
      rintro e w3 ⟨rfl, H3⟩
      go_wp2_with fail
      go_ret
      exact ⟨rfl, H3.out⟩
    | true =>
      obtain ⟨m, hm, hm7⟩ : ∃ m : Nat, Int.tmod a1 7 = (m : Int) ∧ m < 7 := by
        have := HI.out.2.2.2
        exact ⟨(a1 % 7).toNat, by rw [Int.tmod_eq_emod_of_nonneg (by omega)]; omega, by omega⟩
      have e6 : IntKind.i64.wrap (m : Int) = (m : Int) := by rw [IntKind.wrap_i64]; omega
      have e5 : IntKind.u8.wrap (m : Int) = (m : Int) := by rw [IntKind.wrap_u8]; omega
      obtain ⟨T, n, el, x, p1, p2, p3, p4, p5, p6, p7, p8⟩ := cursor_plan l0 (HG.out (by trivial)) m hm7
      obtain ⟨L, hL⟩ : ∃ L, T ++ bytesOf (curT m) = L := ⟨_, rfl⟩
      rw [hL] at p3
      have HL := Lib.hid hL
      clear hL
      have HP := Lib.hid (And.intro p1 (And.intro p2 (And.intro p3 (And.intro p4 (And.intro p5 (And.intro p6 (And.intro p7 p8)))))))
      have HM := Lib.hid (And.intro (cur_made m hm7) (And.intro (cur_size m hm7) hm7))
      clear p1 p2 p3 p4 p5 p6 p7 p8 hm7
      go_wp2_with fail
      with_reducible refine (laws_drawText.own 400 _ _ l0 T _ (XTab.below HI.out.1 H2.out) (Kd.C_below HI.out.2.1 H2.out) HI.out.2.2.1 HP.out.1).mono ?_
      rintro e w3 ⟨v3, rfl, ho, hb⟩
      have H3 := Lib.hid (And.intro (below_step H2.out hb) (own_low (base' := w.heap.size) ho (below_size H2.out)))
      clear hb ho H2
      go_wp2_with fail
      with_reducible refine (impl_MakeNumber.calls 23 (m : Int) (curT m) _ (XTab.below HI.out.1 H3.out.1) HM.out.1).mono ?_
      rintro e w4 ⟨rfl, hb⟩
      have H4 := Lib.hid (And.intro (below_step H3.out.1 hb) (own_keep H3.out.2 hb))
      clear hb H3
      obtain ⟨i0, hi0, hi1⟩ := Option.map_eq_some_iff.1 (show (Tryz.prog.info? 5).map (fun i => (i.zero, i.size, i.bytes)) = some (some (.int .u8 0), 1, 1) by kernel_rfl)
      simp only [Prod.mk.injEq] at hi1
      have HN := Lib.hid (And.intro hi0 hi1)
      clear hi0 hi1
      go_wp2_with (first | ((with_reducible refine gate_builtin (b := .append) (xs := #[.tmp 17, .tmp 21]) rfl ?_); refine wpList_append_own_stringE (w := w4) rfl (.tmp 17) (.tmp 21) 31 9 rfl w.heap.size 5 i0 Tryz.underlying31 Tryz.underlying9 HN.out.1 HN.out.2.1 HN.out.2.2.1 HN.out.2.2.2 v3 T rfl H4.out.2 (curT m) rfl (by have := HP.out.2.1; have := HM.out.2.1; simp only [maxLen]; omega) (by have := HP.out.2.1; have := HM.out.2.1; omega) (below_size H4.out.1) ?_; intro v5 w5 ho hg; rw [HL.out] at ho; have H5 := Lib.hid (And.intro (H4.out.1.grown hg (below_size H4.out.1) (own_blockE H4.out.2)) (And.intro (own_readsE ho) trivial)); clear ho hg; obtain ⟨A5, c5, hv5, hc5, hC5⟩ := H5.out.2.1; subst hv5; have H6 := Lib.hid (And.intro H5.out.1 (And.intro hc5 hC5)); clear hc5 hC5 H5))
      with_reducible refine (impl_Feed.calls 32 4096 _ _ L el _ H6.out.2.2 H6.out.2.1 HP.out.2.2.1).mono ?_
      rintro e w7 ⟨v7, rfl, hv, hb⟩
      have hv2 : Kd.V k48 48 w7 w7.heap.size (fun _ => True) v7 el := Kd.S_V hv
      obtain ⟨A7, c7, rfl⟩ := Kd.S_slice hv
      obtain ⟨_, hc7, hf7⟩ := Kd.V_at hv2
      have hcut := Kd.F_cut (c := c7) (m := n) hf7 (by have := HP.out.2.2.2.1; omega) (by omega)
      rw [HP.out.2.2.2.2.2.1] at hcut
      have H7 := Lib.hid (And.intro (below_step H6.out.1 hb) (And.intro hcut hc7))
      have hsl := cut_last 29 48 k48.sz Tryz.underlying29 (by kernel_rfl) A7 n c7
      have hel := HP.out.2.2.2.1
      generalize (if c7 = n then A7 else A7.map (·.add (n * k48.sz))) = A8 at hsl H7
      rw [hel]
      have e0 : ((n : Int) + 1 == 0) = false := beq_eq_false_iff_ne.2 (by omega)
      have e7 : IntKind.i64.wrap (n : Int) = (n : Int) := by have := HP.out.2.2.2.2.1; rw [IntKind.wrap_i64]; omega
      clear hb hv hv2 H6 hc7 hf7 hcut hel
      go_wp2_with fail
      have hV : Kd.V k48 48 w7 w7.heap.size (fun _ => True) (.slice A8 ([x] : List S48).length (c7 - n)) [x] := Kd.V_mk (by have := H7.out.2.2; have := HP.out.2.2.2.1; show 1 ≤ c7 - n; omega) H7.out.2.1
      refine (laws_drawEvents.calls 400 (fun _ => True) A8 (c7 - n) [x] [cv x] _ hV HP.out.2.2.2.2.2.2.1).mono ?_
      rintro e w8 ⟨v8, rfl, ho, hb⟩
      obtain ⟨A9, c9, rfl, hc9, hC9⟩ := Kd.N_reads ho
      have H8 := Lib.hid (And.intro (below_step H7.out.1 hb) (And.intro hc9 hC9))
      clear hb ho hc9 hC9 hV H7 hsl
      go_wp2_with fail
      refine (spec_DrawNumbers.calls 400 A9 c9 [cv x] curQ [(m : Int)] true _ H8.out.2.2 H8.out.2.1 HP.out.2.2.2.2.2.2.2).mono ?_
      rintro e w9 ⟨v9, rfl, ho, hb⟩
      obtain ⟨A10, c10, rfl, hc10, hC10⟩ := Kd.R_reads ho
      have H9 := Lib.hid (And.intro (below_step H8.out.1 hb) (And.intro hc10 hC10))
      clear hb ho hc10 hC10 H8
      go_wp2_with fail
      with_reducible refine (impl_Pack.calls 0 32 113 curQ _ cur_pack).mono ?_
      rintro e w10 ⟨rfl, ⟨nd, rfl⟩⟩
      have H10 := Lib.hid (And.intro (pw_below_drewN H9.out.1 nd) (And.intro H9.out.2.1 (Kd.C_drewN H9.out.2.2 nd)))
      generalize (World.drewN _ nd) = w10 at H10 ⊢
      clear H9
      go_wp2_with fail
      obtain ⟨w11, hw⟩ : ∃ w11, w11 = w10.alloc (Obj.cells #[.int .i64 (m : Int)] 2) := ⟨_, rfl⟩
      rw [← hw]
      have hx : w11.heap[w10.heap.size]? = some (Obj.cells #[.int .i64 (m : Int)] 2 (0, 0)) := by rw [hw]; exact blk_new w10 _
      have hC : (Kd.int .i64).C w11 (some ⟨w10.heap.size, 0, none⟩) 1 [(m : Int)] := Kd.C_of_reads (d := (0 : Int)) (enc := Value.int .i64) (h1 := fun _ => rfl) ⟨rfl, by decide, fun hn => ⟨_, rfl, fun j hj => by
        obtain rfl : j = 0 := by omega
        have hadd : (⟨w10.heap.size, 0, none⟩ : Addr).add 0 = ⟨w10.heap.size, 0, none⟩ := by unfold Addr.add; split <;> simp_all
        rw [hadd]
        exact blk_cell hx 0⟩⟩
      have H11 := Lib.hid (And.intro (show Below w.heap.size w w11 by rw [hw]; exact below_alloc H10.out.1 _) (And.intro (Nat.le_refl 1) (And.intro hC (And.intro H10.out.2.1 (show (Kd.int .i64).C w11 A10 1 [(m : Int)] by rw [hw]; exact Kd.C_alloc H10.out.2.2 _)))))
      clear hw hx hC H10
      refine (spec_SameInts.calls 400 A10 c10 [(m : Int)] (some ⟨w10.heap.size, 0, none⟩) 1 [(m : Int)] true _ H11.out.2.2.2.2 H11.out.2.2.2.1 H11.out.2.2.1 H11.out.2.1 (cur_same m)).mono ?_
      rintro e w12 ⟨rfl, ⟨nd, rfl⟩⟩
      have H12 := Lib.hid (pw_below_drewN H11.out.1 nd)
      generalize (World.drewN _ nd) = w12 at H12 ⊢
      clear H11
      go_wp2_with fail
      refine (HE.out _ H12.out).mono ?_
      rintro e w13 ⟨rfl, H13⟩
      go_wp2_with fail
      go_ret
      exact ⟨rfl, H13.out⟩
theorem FnDrawCursor_true {Q : Op → Prop} (l : List Op) (_ : l.length ≤ maxLen) (_ : ∀ a ∈ l, Q a) (a1 : Int) (h1 : (Lit.int .u8 a1).wf = true) : laws_FnDrawCursor.f l a1 = some true := by
  have k1 : 0 ≤ a1 ∧ a1 ≤ 255 := by simpa [Lit.wf, IntKind.min, IntKind.max, IntKind.signed, IntKind.bits] using h1
  exact if_pos k1
end Go.Proofs.YtjkpelaeelihhaaGreatDoorRR.Y
end
