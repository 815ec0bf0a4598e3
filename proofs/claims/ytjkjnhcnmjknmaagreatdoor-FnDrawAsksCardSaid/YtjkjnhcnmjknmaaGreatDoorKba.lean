/- Texts of this claim, joined: Y65 Y68 Y69 Y70. Of each, what the claim uses. -/
import Derived.Test.YtjkjnhcnmjknmaaGreatDoorKac
import Derived.Test.YtjkjnhcnmjknmaaGreatDoorKaz
section
namespace Go.Proofs.YtjkjnhcnmjknmaaGreatDoor.Y
open Go.RowKit Go.Proofs.YtjkjnhcnmjknmaaGreatDoorW.PrintWords Go.Proofs.YtjkjnhcnmjknmaaGreatDoorW.PrintLast Go.Proofs.YtjkjnhcnmjknmaaGreatDoorW.PrintMore
attribute [local go_sem] max2_int min2_int max_two min_two max_three min_three max_four min_four   -- for this text's walks alone
set_option linter.unusedVariables false
set_option linter.unusedSimpArgs false
set_option maxHeartbeats 8000000 in
set_option maxRecDepth 100000 in
theorem spec_DrawNumbers.calls (k : Nat) (A0 : Option Addr) (c0 : Nat) (l0 : List (S65)) (r1 : Int) (r2 : List Int) (r3 : Bool) (w : World) (hr0 : Kd.C k65 w A0 l0.length l0) (hc0 : l0.length ≤ c0) (h : spec_DrawNumbers.f k l0 = some (r1, r2, r3)) :
    Calls Tryz.prog 9 #[.slice A0 l0.length c0] w fun e w' => ∃ v1_ : Value, e = .returned (.tuple #[.int .i64 r1, v1_, .bool r3]) ∧ Kd.R (Kd.int .i64) 2 w' w.heap.size (fun _ => True) v1_ r2 ∧ Below w.heap.size w w' := by
  have HR0 := Aside0.mk hr0
  have HC0 := Aside0.mk hc0
  clear hr0 hc0
  have HB := Aside0.mk (Below.refl w.heap.size w)
  have H : (if (l0.length : Int) = 1 then (if 0 < (l0.length : Int) then (spec_DrawNumbers.j0 k l0 (((rd_T65 l0 0).f0) != 2)) else (none)) else (spec_DrawNumbers.j0 k l0 true)) = some (r1, r2, r3) := h
  clear h
  have HC2 := Aside0.mk H
  clear H
  go_enter Tryz.func9, Tryz.ntmps9
  go_upto_region 1 with (fail)
  go_cut [16] (fun v16 wc => ∃ (kq : Nat) (x16_1 : Bool), v16 = .bool x16_1 ∧ Aside0 (spec_DrawNumbers.j0 kq l0 x16_1 = some (r1, r2, r3)) ∧ Aside0 (kq ≤ k) ∧ Aside0 (Below w.heap.size w wc))
  case first =>
    have H := HC2.out
    clear HC2
    by_cases c3 : (l0.length : Int) = 1
    · rw [if_pos c3] at H
      have c3b0 : ((l0.length : Int) == 1) = true := beq_iff_eq.mpr c3
      have c3b1 : ((l0.length : Int) != 1) = false := bne_eq_false_iff_eq.mpr c3
      clear c3
      (first | rw [c3b0] | (simp only [i64_w, i32_w]; rw [c3b0]) | skip)
      by_cases c4 : 0 < (l0.length : Int)
      · rw [if_pos c4] at H
        have c4b0 : decide (0 < (l0.length : Int)) = true := decide_eq_true c4
        have c4b1 : decide (0 < l0.length) = true := decide_eq_true (by omega)
        clear c4
        have H' := Aside0.mk H
        clear H
        have p221 : 0 ≤ (0 : Int) := (by omega)
        have q221 : 0 < (l0.length : Int) := of_decide_eq_true (by first | (with_reducible assumption) | assumption)
        obtain ⟨ad221, A221_4, c221_4, A221_5, c221_5, e221, hx221_0, hx221_1, hx221_2, hx221_3, hx221_4, hx221_5, hl221_4, hi221_4, hl221_5, hi221_5⟩ := at_T65 HR0.out 0 p221 q221
        cases e221
        have qi221 : (0 < l0.length) = True := eq_true (by omega)
        (try rw [show ((0 : Int)).toNat = 0 from rfl] at hx221_0)
        (try rw [show 0 * 6 = 0 from rfl] at hx221_0)
        (try rw [Addr.add_zero'] at hx221_0)
        (try rw [show ((0 : Int)).toNat = 0 from rfl] at hx221_1)
        (try rw [show 0 * 6 = 0 from rfl] at hx221_1)
        (try rw [Addr.add_zero'] at hx221_1)
        (try rw [show ((0 : Int)).toNat = 0 from rfl] at hx221_2)
        (try rw [show 0 * 6 = 0 from rfl] at hx221_2)
        (try rw [Addr.add_zero'] at hx221_2)
        (try rw [show ((0 : Int)).toNat = 0 from rfl] at hx221_3)
        (try rw [show 0 * 6 = 0 from rfl] at hx221_3)
        (try rw [Addr.add_zero'] at hx221_3)
        (try rw [show ((0 : Int)).toNat = 0 from rfl] at hx221_4)
        (try rw [show 0 * 6 = 0 from rfl] at hx221_4)
        (try rw [Addr.add_zero'] at hx221_4)
        (try rw [show ((0 : Int)).toNat = 0 from rfl] at hx221_5)
        (try rw [show 0 * 6 = 0 from rfl] at hx221_5)
        (try rw [Addr.add_zero'] at hx221_5)
        replace hx221_0 := (HB.out.cell (World.block_lt_of_cell? w _ hx221_0)).trans hx221_0
        replace hx221_1 := (HB.out.cell (World.block_lt_of_cell? w _ hx221_1)).trans hx221_1
        replace hx221_2 := (HB.out.cell (World.block_lt_of_cell? w _ hx221_2)).trans hx221_2
        replace hx221_3 := (HB.out.cell (World.block_lt_of_cell? w _ hx221_3)).trans hx221_3
        replace hx221_4 := (HB.out.cell (World.block_lt_of_cell? w _ hx221_4)).trans hx221_4
        replace hx221_5 := (HB.out.cell (World.block_lt_of_cell? w _ hx221_5)).trans hx221_5
        have HR221_4 := Aside0.mk hi221_4
        have HC221_4 := Aside0.mk hl221_4
        clear hi221_4 hl221_4
        have HR221_5 := Aside0.mk hi221_5
        have HC221_5 := Aside0.mk hl221_5
        clear hi221_5 hl221_5
        replace p221 := eq_true p221
        replace q221 := eq_true q221
        go_wp2
        go_meet
        case rel => exact ⟨_, ((((rd_T65 l0 0).f0) != 2)), (by first | rfl | (simp; done) | (simp [*]; done)), H', ⟨by first | omega | exact Nat.le_refl _⟩, ⟨by repeat (first | (with_reducible first | exact HB.out | apply below_alloc | apply pw_below_drewN | apply below_drew1) | exact HB.out)⟩⟩
      · rw [if_neg c4] at H
        exact absurd H (by simp)
    · rw [if_neg c3] at H
      have c3b0 : ((l0.length : Int) == 1) = false := beq_eq_false_iff_ne.mpr c3
      have c3b1 : ((l0.length : Int) != 1) = true := bne_iff_ne.mpr c3
      (first | rw [c3b0] | (simp only [i64_w, i32_w]; rw [c3b0]) | skip)
      have H' := Aside0.mk H
      clear H
      go_wp2
      go_meet
      case rel => exact ⟨_, (true), (by first | rfl | (simp; done) | (simp [*]; done)), H', ⟨by first | omega | exact Nat.le_refl _⟩, ⟨by repeat (first | (with_reducible first | exact HB.out | apply below_alloc | apply pw_below_drewN | apply below_drew1) | exact HB.out)⟩⟩
  case rest =>
    clear HC2
    try clear c2
    try clear p2
    try clear q2
    try clear hx2
    try clear qi2
    try clear c3
    try clear c3b0
    try clear c3b1
    try clear c4
    try clear c4b0
    try clear c4b1
    try clear hx221_0
    try clear hx221_1
    try clear hx221_2
    try clear hx221_3
    try clear hx221_4
    try clear hx221_5
    try clear p221
    try clear q221
    obtain ⟨kq, x16_1, rfl, HA, HJ1, HB⟩ := hcut
    cases kq with
    | zero => exact absurd HA.out (by simp [spec_DrawNumbers.j0])
    | succ kj1 =>
      have H := HA.out
      clear HA
      simp only [spec_DrawNumbers.j0] at H
      by_cases c5 : x16_1 = true
      · subst c5
        have H1 : (some (0, ([] : List Int), false)) = some (r1, r2, r3) := by rw [if_pos rfl] at H; exact H
        clear H
        have H := H1
        clear H1
        simp only [Option.some.injEq, Prod.mk.injEq] at H
        obtain ⟨rfl, rfl, rfl⟩ := H
        go_wp2
        go_ret3
        exact ⟨_, by first | rfl | (simp [errW_none, errW_some] <;> rfl) | (simp [*, errW_none, errW_some] <;> rfl), by first | exact Kd.R_nil _ _ _ _ _ | exact Kd.N_nil _ _ _ _ _ | exact Kd.V_nil _ _ _ _ _ | exact Kd.Q_nil _ _ _ _ _ | exact Kd.S_nil _ _ _ _ _, by repeat (first | (with_reducible first | exact HB.out | apply below_alloc | apply pw_below_drewN | apply below_drew1) | exact HB.out)⟩
      · replace c5 := Bool.eq_false_iff.mpr c5
        subst c5
        have H1 : (if 0 < (l0.length : Int) then (spec_DrawNumbers.l0 kj1 l0 ([] : List Int) (((rd_T65 l0 0).f4).length : Int) 0) else (none)) = some (r1, r2, r3) := by rw [if_neg (show ¬ (false = true) by decide)] at H; exact H
        clear H
        have H := H1
        clear H1
        by_cases c6 : 0 < (l0.length : Int)
        · rw [if_pos c6] at H
          have c6b0 : decide (0 < (l0.length : Int)) = true := decide_eq_true c6
          have c6b1 : decide (0 < l0.length) = true := decide_eq_true (by omega)
          clear c6
          have H' := Aside0.mk H
          clear H
          have p222 : 0 ≤ (0 : Int) := (by omega)
          have q222 : 0 < (l0.length : Int) := of_decide_eq_true (by first | (with_reducible assumption) | assumption)
          obtain ⟨ad222, A222_4, c222_4, A222_5, c222_5, e222, hx222_0, hx222_1, hx222_2, hx222_3, hx222_4, hx222_5, hl222_4, hi222_4, hl222_5, hi222_5⟩ := at_T65 HR0.out 0 p222 q222
          cases e222
          have qi222 : (0 < l0.length) = True := eq_true (by omega)
          (try rw [show ((0 : Int)).toNat = 0 from rfl] at hx222_0)
          (try rw [show 0 * 6 = 0 from rfl] at hx222_0)
          (try rw [Addr.add_zero'] at hx222_0)
          (try rw [show ((0 : Int)).toNat = 0 from rfl] at hx222_1)
          (try rw [show 0 * 6 = 0 from rfl] at hx222_1)
          (try rw [Addr.add_zero'] at hx222_1)
          (try rw [show ((0 : Int)).toNat = 0 from rfl] at hx222_2)
          (try rw [show 0 * 6 = 0 from rfl] at hx222_2)
          (try rw [Addr.add_zero'] at hx222_2)
          (try rw [show ((0 : Int)).toNat = 0 from rfl] at hx222_3)
          (try rw [show 0 * 6 = 0 from rfl] at hx222_3)
          (try rw [Addr.add_zero'] at hx222_3)
          (try rw [show ((0 : Int)).toNat = 0 from rfl] at hx222_4)
          (try rw [show 0 * 6 = 0 from rfl] at hx222_4)
          (try rw [Addr.add_zero'] at hx222_4)
          (try rw [show ((0 : Int)).toNat = 0 from rfl] at hx222_5)
          (try rw [show 0 * 6 = 0 from rfl] at hx222_5)
          (try rw [Addr.add_zero'] at hx222_5)
          replace hx222_0 := (HB.out.cell (World.block_lt_of_cell? w _ hx222_0)).trans hx222_0
          replace hx222_1 := (HB.out.cell (World.block_lt_of_cell? w _ hx222_1)).trans hx222_1
          replace hx222_2 := (HB.out.cell (World.block_lt_of_cell? w _ hx222_2)).trans hx222_2
          replace hx222_3 := (HB.out.cell (World.block_lt_of_cell? w _ hx222_3)).trans hx222_3
          replace hx222_4 := (HB.out.cell (World.block_lt_of_cell? w _ hx222_4)).trans hx222_4
          replace hx222_5 := (HB.out.cell (World.block_lt_of_cell? w _ hx222_5)).trans hx222_5
          have HR222_4 := Aside0.mk hi222_4
          have HC222_4 := Aside0.mk hl222_4
          clear hi222_4 hl222_4
          have HR222_5 := Aside0.mk hi222_5
          have HC222_5 := Aside0.mk hl222_5
          clear hi222_5 hl222_5
          replace p222 := eq_true p222
          replace q222 := eq_true q222
          go_wp2
          go_loopg [5, 22] kj1 (fun kq v5 v22 w' => ∃ (x5_2 : List Int) (x22_2 : Int), v22 = .int .i64 x22_2 ∧ Aside0 (spec_DrawNumbers.l0 kq l0 x5_2 (((rd_T65 l0 0).f4).length : Int) x22_2 = some (r1, r2, r3)) ∧ Aside0 (kq ≤ kj1) ∧ Aside0 (Kd.R (Kd.int .i64) 2 w' w.heap.size (fun _ => True) v5 x5_2) ∧ Aside0 (Below w.heap.size w w'))
          case atStart => exact ⟨(([] : List Int)), (0), (by first | rfl | (simp; done) | (simp [*]; done)), H', ⟨Nat.le_refl _⟩, ⟨by first | exact Kd.R_nil _ _ _ _ _ | exact Kd.N_nil _ _ _ _ _ | exact Kd.V_nil _ _ _ _ _ | exact Kd.Q_nil _ _ _ _ _ | exact Kd.S_nil _ _ _ _ _⟩, ⟨by repeat (first | (with_reducible first | exact HB.out | apply below_alloc | apply pw_below_drewN | apply below_drew1) | exact HB.out)⟩⟩
          case round =>
            clear H'
            try clear c2
            try clear p2
            try clear q2
            try clear hx2
            try clear qi2
            try clear c3
            try clear c3b0
            try clear c3b1
            try clear c4
            try clear c4b0
            try clear c4b1
            try clear c5
            try clear c6
            try clear c6b0
            try clear c6b1
            try clear hx221_0
            try clear hx221_1
            try clear hx221_2
            try clear hx221_3
            try clear hx221_4
            try clear hx221_5
            try clear hx222_0
            try clear hx222_1
            try clear hx222_2
            try clear hx222_3
            try clear hx222_4
            try clear hx222_5
            try clear p2
            try clear p221
            try clear p222
            try clear q2
            try clear q221
            try clear q222
            obtain ⟨x5_2, x22_2, rfl, HA, HK2, HO_5, HB⟩ := hrel
            cases gk with
            | zero => exact absurd HA.out (by simp [spec_DrawNumbers.l0])
            | succ k2 =>
              have H := HA.out
              clear HA
              simp only [spec_DrawNumbers.l0] at H
              by_cases c7 : x22_2 < (((rd_T65 l0 0).f4).length : Int)
              · rw [if_pos c7] at H
                have c7b0 : decide (x22_2 < (((rd_T65 l0 0).f4).length : Int)) = true := decide_eq_true c7
                clear c7
                by_cases c8 : 0 < (l0.length : Int)
                · rw [if_pos c8] at H
                  have c8b0 : decide (0 < (l0.length : Int)) = true := decide_eq_true c8
                  have c8b1 : decide (0 < l0.length) = true := decide_eq_true (by omega)
                  clear c8
                  replace H := Option.bind_eq_some_iff.mp H
                  obtain ⟨t224, A90, H⟩ := H
                  replace H : (if x5_2.length < 17592186044416 then (spec_DrawNumbers.l0 k2 l0 (x5_2 ++ [t224]) (((rd_T65 l0 0).f4).length : Int) (wrap64 (x22_2 + 1))) else (none)) = some (r1, r2, r3) := H
                  have A9 := Aside0.mk A90
                  clear A90
                  by_cases c10 : x5_2.length < 17592186044416
                  · rw [if_pos c10] at H
                    have LMc10 := Aside0.mk c10
                    clear c10
                    obtain ⟨y225, hy225⟩ : ∃ y_ : List Int, y_ = (x5_2 ++ [t224]) := ⟨_, rfl⟩
                    replace H : (spec_DrawNumbers.l0 k2 l0 y225 (((rd_T65 l0 0).f4).length : Int) (wrap64 (x22_2 + 1))) = some (r1, r2, r3) := by first | (rw [hy225]; with_reducible exact H) | (have H2_ := (Option.bind_some _ _).symm.trans H; rw [hy225]; with_reducible exact H2_) | (have H2_ := (Option.bind_some _ _).symm.trans H; with_reducible exact H2_) | with_reducible exact H | (rw [hy225]; exact H) | exact H
                    have Ny225 := Aside0.mk hy225
                    clear hy225
                    have H' := Aside0.mk H
                    clear H
                    have p223 : 0 ≤ (0 : Int) := (by omega)
                    have q223 : 0 < (l0.length : Int) := of_decide_eq_true (by first | (with_reducible assumption) | assumption)
                    obtain ⟨ad223, A223_4, c223_4, A223_5, c223_5, e223, hx223_0, hx223_1, hx223_2, hx223_3, hx223_4, hx223_5, hl223_4, hi223_4, hl223_5, hi223_5⟩ := at_T65 HR0.out 0 p223 q223
                    obtain rfl : ad222 = ad223 := (by injection e223)
                    have qi223 : (0 < l0.length) = True := eq_true (by omega)
                    (try rw [show ((0 : Int)).toNat = 0 from rfl] at hx223_0)
                    (try rw [show 0 * 6 = 0 from rfl] at hx223_0)
                    (try rw [Addr.add_zero'] at hx223_0)
                    (try rw [show ((0 : Int)).toNat = 0 from rfl] at hx223_1)
                    (try rw [show 0 * 6 = 0 from rfl] at hx223_1)
                    (try rw [Addr.add_zero'] at hx223_1)
                    (try rw [show ((0 : Int)).toNat = 0 from rfl] at hx223_2)
                    (try rw [show 0 * 6 = 0 from rfl] at hx223_2)
                    (try rw [Addr.add_zero'] at hx223_2)
                    (try rw [show ((0 : Int)).toNat = 0 from rfl] at hx223_3)
                    (try rw [show 0 * 6 = 0 from rfl] at hx223_3)
                    (try rw [Addr.add_zero'] at hx223_3)
                    (try rw [show ((0 : Int)).toNat = 0 from rfl] at hx223_4)
                    (try rw [show 0 * 6 = 0 from rfl] at hx223_4)
                    (try rw [Addr.add_zero'] at hx223_4)
                    (try rw [show ((0 : Int)).toNat = 0 from rfl] at hx223_5)
                    (try rw [show 0 * 6 = 0 from rfl] at hx223_5)
                    (try rw [Addr.add_zero'] at hx223_5)
                    replace hx223_0 := (HB.out.cell (World.block_lt_of_cell? w _ hx223_0)).trans hx223_0
                    replace hx223_1 := (HB.out.cell (World.block_lt_of_cell? w _ hx223_1)).trans hx223_1
                    replace hx223_2 := (HB.out.cell (World.block_lt_of_cell? w _ hx223_2)).trans hx223_2
                    replace hx223_3 := (HB.out.cell (World.block_lt_of_cell? w _ hx223_3)).trans hx223_3
                    replace hx223_4 := (HB.out.cell (World.block_lt_of_cell? w _ hx223_4)).trans hx223_4
                    replace hx223_5 := (HB.out.cell (World.block_lt_of_cell? w _ hx223_5)).trans hx223_5
                    have HR223_4 := Aside0.mk hi223_4
                    have HC223_4 := Aside0.mk hl223_4
                    clear hi223_4 hl223_4
                    have HR223_5 := Aside0.mk hi223_5
                    have HC223_5 := Aside0.mk hl223_5
                    clear hi223_5 hl223_5
                    replace p223 := eq_true p223
                    replace q223 := eq_true q223
                    go_wp2_with (first | ((with_reducible refine gate_callee (f := 25) rfl ?_); refine goesL_ (some 31) rfl rfl Tryz.func25 (by kernel_rfl) rfl #[.slice A223_4 ((rd_T65 l0 0).f4).length c223_4, .int .i64 x22_2, .int .i64 (-1)] rfl (by (try simp only [List.map_toArray, List.map_cons, List.map_nil]); first | done | rfl | (simp only [List.length_drop, List.length_take]; rfl)) ?_; (with_reducible refine (spec_DrawParam.calls _ _ ((rd_T65 l0 0).f4) x22_2 (-1) t224 _ ?side1 ?side2 A9.out).mono ?_); (case side1 => repeat (first | exact (Kd.C_below HR223_4.out HB.out) | (with_reducible refine Kd.C_alloc ?_ _) | (with_reducible refine Kd.C_drewN ?_ _) | (with_reducible refine Kd.C_drew ?_))); (case side2 => exact HC223_4.out); rintro e w' ⟨rfl, ⟨nd, rfl⟩⟩; refine ⟨_, rfl, ?_⟩) | ((with_reducible refine gate_builtin (b := .append) (xs := #[.tmp 25, .tmp 32]) rfl ?_); at_builtin; refine Kd.R_append (Kd.int .i64) (w0 := w) w.heap.size rfl (.tmp 25) (.tmp 32) 25 2 (.int .i64 0) 8 rfl Tryz.underlying25 info2 rfl (by decide) (by omega) u5 x5_2 t224 [.int .i64 t224] (fun _ => True) (fun _ => False) rfl rfl ?aP (fun _ hk => hk.elim) ?aF ?aO ?aB ?aS ?aL ?_; (case aP => exact rfl); (case aB => exact (by repeat (first | (with_reducible first | exact HB.out | apply below_alloc | apply pw_below_drewN | apply below_drew1) | exact HB.out))); (case aF => exact (fun _ _ => trivial)); (case aO => exact (by (with_reducible repeat (first | apply Kd.R_alloc | apply Kd.R_drewN | apply Kd.R_drew)); exact HO_5.out)); (case aS => exact (below_size (by repeat (first | (with_reducible first | exact HB.out | apply below_alloc | apply pw_below_drewN | apply below_drew1) | exact HB.out)))); (case aL => have := LMc10.out; omega); intro v226 w11 ho hb hg hat; rw [← Ny225.out] at ho; have n0_ := Aside0.mk (hb); have n1_ := Aside0.mk (ho); clear HB; clear HO_5; have HB := n0_; have HO227 := n1_; clear n0_ n1_; clear ho hb hg hat))
                    go_roundg k2
                    case measure => have := HJ1.out; have := HK2.out; omega
                    case rel => exact ⟨(y225), (wrap64 (x22_2 + 1)), (by first | rfl | (simp; done) | (simp [*]; done)), H', ⟨by have := HJ1.out; have := HK2.out; omega⟩, ⟨by (with_reducible repeat (first | apply Kd.R_alloc | apply Kd.R_drewN | apply Kd.R_drew)); exact HO227.out⟩, ⟨by repeat (first | (with_reducible first | exact HB.out | apply below_alloc | apply pw_below_drewN | apply below_drew1) | exact HB.out)⟩⟩
                  · rw [if_neg c10] at H
                    exact absurd H (by simp)
                · rw [if_neg c8] at H
                  exact absurd H (by simp)
              · rw [if_neg c7] at H
                have c7b0 : decide (x22_2 < (((rd_T65 l0 0).f4).length : Int)) = false := decide_eq_false c7
                clear c7
                by_cases c12 : 0 < (l0.length : Int)
                · rw [if_pos c12] at H
                  have c12b0 : decide (0 < (l0.length : Int)) = true := decide_eq_true c12
                  have c12b1 : decide (0 < l0.length) = true := decide_eq_true (by omega)
                  clear c12
                  simp only [Option.some.injEq, Prod.mk.injEq] at H
                  obtain ⟨rfl, rfl, rfl⟩ := H
                  have p228 : 0 ≤ (0 : Int) := (by omega)
                  have q228 : 0 < (l0.length : Int) := of_decide_eq_true (by first | (with_reducible assumption) | assumption)
                  obtain ⟨ad228, A228_4, c228_4, A228_5, c228_5, e228, hx228_0, hx228_1, hx228_2, hx228_3, hx228_4, hx228_5, hl228_4, hi228_4, hl228_5, hi228_5⟩ := at_T65 HR0.out 0 p228 q228
                  obtain rfl : ad222 = ad228 := (by injection e228)
                  have qi228 : (0 < l0.length) = True := eq_true (by omega)
                  (try rw [show ((0 : Int)).toNat = 0 from rfl] at hx228_0)
                  (try rw [show 0 * 6 = 0 from rfl] at hx228_0)
                  (try rw [Addr.add_zero'] at hx228_0)
                  (try rw [show ((0 : Int)).toNat = 0 from rfl] at hx228_1)
                  (try rw [show 0 * 6 = 0 from rfl] at hx228_1)
                  (try rw [Addr.add_zero'] at hx228_1)
                  (try rw [show ((0 : Int)).toNat = 0 from rfl] at hx228_2)
                  (try rw [show 0 * 6 = 0 from rfl] at hx228_2)
                  (try rw [Addr.add_zero'] at hx228_2)
                  (try rw [show ((0 : Int)).toNat = 0 from rfl] at hx228_3)
                  (try rw [show 0 * 6 = 0 from rfl] at hx228_3)
                  (try rw [Addr.add_zero'] at hx228_3)
                  (try rw [show ((0 : Int)).toNat = 0 from rfl] at hx228_4)
                  (try rw [show 0 * 6 = 0 from rfl] at hx228_4)
                  (try rw [Addr.add_zero'] at hx228_4)
                  (try rw [show ((0 : Int)).toNat = 0 from rfl] at hx228_5)
                  (try rw [show 0 * 6 = 0 from rfl] at hx228_5)
                  (try rw [Addr.add_zero'] at hx228_5)
                  replace hx228_0 := (HB.out.cell (World.block_lt_of_cell? w _ hx228_0)).trans hx228_0
                  replace hx228_1 := (HB.out.cell (World.block_lt_of_cell? w _ hx228_1)).trans hx228_1
                  replace hx228_2 := (HB.out.cell (World.block_lt_of_cell? w _ hx228_2)).trans hx228_2
                  replace hx228_3 := (HB.out.cell (World.block_lt_of_cell? w _ hx228_3)).trans hx228_3
                  replace hx228_4 := (HB.out.cell (World.block_lt_of_cell? w _ hx228_4)).trans hx228_4
                  replace hx228_5 := (HB.out.cell (World.block_lt_of_cell? w _ hx228_5)).trans hx228_5
                  have HR228_4 := Aside0.mk hi228_4
                  have HC228_4 := Aside0.mk hl228_4
                  clear hi228_4 hl228_4
                  have HR228_5 := Aside0.mk hi228_5
                  have HC228_5 := Aside0.mk hl228_5
                  clear hi228_5 hl228_5
                  replace p228 := eq_true p228
                  replace q228 := eq_true q228
                  go_wp2
                  go_ret3
                  exact ⟨_, by first | rfl | (simp [errW_none, errW_some] <;> rfl) | (simp [*, errW_none, errW_some] <;> rfl), by (with_reducible repeat (first | apply Kd.R_alloc | apply Kd.R_drewN | apply Kd.R_drew)); exact HO_5.out, by repeat (first | (with_reducible first | exact HB.out | apply below_alloc | apply pw_below_drewN | apply below_drew1) | exact HB.out)⟩
                · rw [if_neg c12] at H
                  exact absurd H (by simp)
        · rw [if_neg c6] at H
          exact absurd H (by simp)
end Go.Proofs.YtjkjnhcnmjknmaaGreatDoor.Y
end
section
namespace Go.Proofs.YtjkjnhcnmjknmaaGreatDoor.Y
open Go.RowKit Go.Proofs.YtjkjnhcnmjknmaaGreatDoorW.PrintWords Go.Proofs.YtjkjnhcnmjknmaaGreatDoorW.PrintLast Go.Proofs.YtjkjnhcnmjknmaaGreatDoorW.PrintMore
attribute [local go_sem] max2_int min2_int max_two min_two max_three min_three max_four min_four   -- for this text's walks alone
set_option linter.unusedVariables false
set_option linter.unusedSimpArgs false
set_option maxHeartbeats 8000000 in
set_option maxRecDepth 100000 in
theorem xansi_Command.calls (a0 : Int) (a1 : Int) (a2 : Int) (r : Int) (w : World) (h : xansi_Command.f a0 a1 a2 = some r) :
    Calls Tryz.prog 37 #[.int .u8 a0, .int .u8 a1, .int .u8 a2] w fun e w' => e = .returned (.int .i64 r) ∧ Drawn0 w w' := by
  have H : (some (Go.bits .or .i64 (Go.bits .or .i64 (wrap64 (a2)) (wrap64 ((wrap64 (a0)) * 256))) (wrap64 ((wrap64 (a1)) * 65536)))) = some r := h
  clear h
  obtain rfl := Option.some.inj H
  go_enter Tryz.func37, Tryz.ntmps37
  go_wp2
  go_ret
  exact ⟨by first | rfl | (simp; done) | (simp [*]; done), by repeat (first | exact Drawn0.refl _ | apply Drawn0.step)⟩
end Go.Proofs.YtjkjnhcnmjknmaaGreatDoor.Y
end
section
namespace Go.Proofs.YtjkjnhcnmjknmaaGreatDoor.Y
open Go.RowKit Go.Proofs.YtjkjnhcnmjknmaaGreatDoorW.PrintWords Go.Proofs.YtjkjnhcnmjknmaaGreatDoorW.PrintLast Go.Proofs.YtjkjnhcnmjknmaaGreatDoorW.PrintMore
attribute [local go_sem] max2_int min2_int max_two min_two max_three min_three max_four min_four   -- for this text's walks alone
set_option linter.unusedVariables false
set_option linter.unusedSimpArgs false
set_option maxHeartbeats 8000000 in
set_option maxRecDepth 100000 in
theorem impl_Pack.calls (a0 : Int) (a1 : Int) (a2 : Int) (r : Int) (w : World) (h : impl_Pack.f a0 a1 a2 = some r) :
    Calls Tryz.prog 14 #[.int .u8 a0, .int .u8 a1, .int .u8 a2] w fun e w' => e = .returned (.int .i64 r) ∧ Drawn0 w w' := by
  have H : ((xansi_Command.f a0 a1 a2).bind fun t229 => (some t229)) = some r := h
  clear h
  replace H := Option.bind_eq_some_iff.mp H
  obtain ⟨t229, A40, H⟩ := H
  replace H : (some t229) = some r := H
  have A4 := Aside0.mk A40
  clear A40
  obtain rfl := Option.some.inj H
  go_enter Tryz.func14, Tryz.ntmps14
  go_wp2_with (first | ((with_reducible refine gate_callee (f := 37) rfl ?_); refine goesL_ (some 10) rfl rfl Tryz.func37 (by kernel_rfl) rfl #[.int .u8 a0, .int .u8 a1, .int .u8 a2] rfl (by (try simp only [List.map_toArray, List.map_cons, List.map_nil]); first | done | rfl | (simp only [List.length_drop, List.length_take]; rfl)) ?_; (with_reducible refine (xansi_Command.calls a0 a1 a2 t229 _ A4.out).mono ?_); rintro e w' ⟨rfl, ⟨nd, rfl⟩⟩; refine ⟨_, rfl, ?_⟩))
  go_ret
  exact ⟨by first | rfl | (simp; done) | (simp [*]; done), by repeat (first | exact Drawn0.refl _ | apply Drawn0.step)⟩
end Go.Proofs.YtjkjnhcnmjknmaaGreatDoor.Y
end
section
namespace Go.Proofs.YtjkjnhcnmjknmaaGreatDoor.Y
open Go.RowKit Go.Proofs.YtjkjnhcnmjknmaaGreatDoorW.PrintWords Go.Proofs.YtjkjnhcnmjknmaaGreatDoorW.PrintLast Go.Proofs.YtjkjnhcnmjknmaaGreatDoorW.PrintMore
attribute [local go_sem] max2_int min2_int max_two min_two max_three min_three max_four min_four   -- for this text's walks alone
set_option linter.unusedVariables false
set_option linter.unusedSimpArgs false
set_option maxHeartbeats 8000000 in
set_option maxRecDepth 100000 in
theorem spec_SameInts.calls (k : Nat) (A0 : Option Addr) (c0 : Nat) (l0 : List Int) (A1 : Option Addr) (c1 : Nat) (l1 : List Int) (r : Bool) (w : World) (hr0 : Kd.C (Kd.int .i64) w A0 l0.length l0) (hc0 : l0.length ≤ c0) (hr1 : Kd.C (Kd.int .i64) w A1 l1.length l1) (hc1 : l1.length ≤ c1) (h : spec_SameInts.f k l0 l1 = some r) :
    Calls Tryz.prog 15 #[.slice A0 l0.length c0, .slice A1 l1.length c1] w fun e w' => e = .returned (.bool r) ∧ Drawn0 w w' := by
  have HR0 := Aside0.mk hr0
  have HC0 := Aside0.mk hc0
  clear hr0 hc0
  have HR1 := Aside0.mk hr1
  have HC1 := Aside0.mk hc1
  clear hr1 hc1
  have H : (if (l0.length : Int) = (l1.length : Int) then (spec_SameInts.l0 k l0 l1 (l0.length : Int) 0) else (some false)) = some r := h
  clear h
  by_cases c3 : (l0.length : Int) = (l1.length : Int)
  · rw [if_pos c3] at H
    have c3b0 : ((l0.length : Int) == (l1.length : Int)) = true := beq_iff_eq.mpr c3
    have c3b1 : ((l0.length : Int) != (l1.length : Int)) = false := bne_eq_false_iff_eq.mpr c3
    have c3b2 : (l0.length == l1.length) = true := by first | simpa using c3 | (simp at c3 ⊢; omega)
    clear c3
    have H' := Aside0.mk H
    clear H
    go_enter Tryz.func15, Tryz.ntmps15
    go_wp2
    repeat (go_quiet (fail); try go_wp2)
    go_loopg [13] k (fun kq v13 w' => ∃ (x13_1 : Int), v13 = .int .i64 x13_1 ∧ Aside0 (spec_SameInts.l0 kq l0 l1 (l0.length : Int) x13_1 = some r) ∧ Aside0 (kq ≤ k) ∧ Drawn0 w w')
    case atStart => exact ⟨(0), (by first | rfl | (simp; done) | (simp [*]; done)), H', ⟨Nat.le_refl _⟩, by repeat (first | exact Drawn0.refl _ | apply Drawn0.step)⟩
    case round =>
      clear H'
      try clear c1
      try clear p2
      try clear c3
      try clear c3b0
      try clear c3b1
      try clear c3b2
      obtain ⟨x13_1, rfl, HA, HK1, ⟨m1, rfl⟩⟩ := hrel
      cases gk with
      | zero => exact absurd HA.out (by simp [spec_SameInts.l0])
      | succ k1 =>
        have H := HA.out
        clear HA
        simp only [spec_SameInts.l0] at H
        by_cases c4 : x13_1 < (l0.length : Int)
        · rw [if_pos c4] at H
          have c4b0 : decide (x13_1 < (l0.length : Int)) = true := decide_eq_true c4
          clear c4
          by_cases c5 : 0 ≤ x13_1
          · rw [if_pos c5] at H
            have c5b0 : decide (0 ≤ x13_1) = true := decide_eq_true c5
            clear c5
            by_cases c6 : x13_1 < (l0.length : Int)
            · rw [if_pos c6] at H
              have c6b0 : decide (x13_1 < (l0.length : Int)) = true := decide_eq_true c6
              clear c6
              by_cases c7 : x13_1 < (l1.length : Int)
              · rw [if_pos c7] at H
                have c7b0 : decide (x13_1 < (l1.length : Int)) = true := decide_eq_true c7
                clear c7
                by_cases c8 : (rd l0 x13_1) = (rd l1 x13_1)
                · rw [if_pos c8] at H
                  have c8b0 : ((rd l0 x13_1) == (rd l1 x13_1)) = true := beq_iff_eq.mpr c8
                  have c8b1 : ((rd l0 x13_1) != (rd l1 x13_1)) = false := bne_eq_false_iff_eq.mpr c8
                  clear c8
                  have H' := Aside0.mk H
                  clear H
                  have p230 : 0 ≤ (x13_1 : Int) := of_decide_eq_true (by first | (with_reducible assumption) | assumption)
                  have q230 : x13_1 < (l0.length : Int) := of_decide_eq_true (by first | (with_reducible assumption) | assumption)
                  obtain ⟨ad230, e230, hx230_0⟩ := Kd.at_int HR0.out x13_1 p230 q230
                  cases e230
                  replace p230 := eq_true p230
                  replace q230 := eq_true q230
                  have p231 : 0 ≤ (x13_1 : Int) := of_decide_eq_true (by first | (with_reducible assumption) | assumption)
                  have q231 : x13_1 < (l1.length : Int) := of_decide_eq_true (by first | (with_reducible assumption) | assumption)
                  obtain ⟨ad231, e231, hx231_0⟩ := Kd.at_int HR1.out x13_1 p231 q231
                  cases e231
                  replace p231 := eq_true p231
                  replace q231 := eq_true q231
                  go_wp2
                  repeat (go_quiet (fail); try go_wp2)
                  go_roundg k1
                  case measure => have := HK1.out; omega
                  case rel => exact ⟨(wrap64 (x13_1 + 1)), (by first | rfl | (simp; done) | (simp [*]; done)), H', ⟨by have := HK1.out; omega⟩, by repeat (first | exact Drawn0.refl _ | apply Drawn0.step)⟩
                · rw [if_neg c8] at H
                  have c8b0 : ((rd l0 x13_1) == (rd l1 x13_1)) = false := beq_eq_false_iff_ne.mpr c8
                  have c8b1 : ((rd l0 x13_1) != (rd l1 x13_1)) = true := bne_iff_ne.mpr c8
                  obtain rfl := Option.some.inj H
                  have p230 : 0 ≤ (x13_1 : Int) := of_decide_eq_true (by first | (with_reducible assumption) | assumption)
                  have q230 : x13_1 < (l0.length : Int) := of_decide_eq_true (by first | (with_reducible assumption) | assumption)
                  obtain ⟨ad230, e230, hx230_0⟩ := Kd.at_int HR0.out x13_1 p230 q230
                  cases e230
                  replace p230 := eq_true p230
                  replace q230 := eq_true q230
                  have p231 : 0 ≤ (x13_1 : Int) := of_decide_eq_true (by first | (with_reducible assumption) | assumption)
                  have q231 : x13_1 < (l1.length : Int) := of_decide_eq_true (by first | (with_reducible assumption) | assumption)
                  obtain ⟨ad231, e231, hx231_0⟩ := Kd.at_int HR1.out x13_1 p231 q231
                  cases e231
                  replace p231 := eq_true p231
                  replace q231 := eq_true q231
                  go_wp2
                  repeat (go_quiet (fail); try go_wp2)
                  go_ret
                  exact ⟨by first | rfl | (simp; done) | (simp [*]; done), by repeat (first | exact Drawn0.refl _ | apply Drawn0.step)⟩
              · rw [if_neg c7] at H
                exact absurd H (by simp)
            · rw [if_neg c6] at H
              exact absurd H (by simp)
          · rw [if_neg c5] at H
            exact absurd H (by simp)
        · rw [if_neg c4] at H
          have c4b0 : decide (x13_1 < (l0.length : Int)) = false := decide_eq_false c4
          clear c4
          obtain rfl := Option.some.inj H
          go_wp2
          repeat (go_quiet (fail); try go_wp2)
          go_ret
          exact ⟨by first | rfl | (simp; done) | (simp [*]; done), by repeat (first | exact Drawn0.refl _ | apply Drawn0.step)⟩
  · rw [if_neg c3] at H
    have c3b0 : ((l0.length : Int) == (l1.length : Int)) = false := beq_eq_false_iff_ne.mpr c3
    have c3b1 : ((l0.length : Int) != (l1.length : Int)) = true := bne_iff_ne.mpr c3
    have c3b2 : (l0.length == l1.length) = false := by first | simpa using c3 | (simp at c3 ⊢; omega)
    obtain rfl := Option.some.inj H
    go_enter Tryz.func15, Tryz.ntmps15
    go_wp2
    repeat (go_quiet (fail); try go_wp2)
    go_ret
    exact ⟨by first | rfl | (simp; done) | (simp [*]; done), by repeat (first | exact Drawn0.refl _ | apply Drawn0.step)⟩
end Go.Proofs.YtjkjnhcnmjknmaaGreatDoor.Y
end
