/- Texts of this claim, joined: Y49 Y50. Of each, what the claim uses. -/
import Derived.Test.YtjkjnhcnmjknmaaDoorKad
import Derived.Test.YtjkjnhcnmjknmaaDoorKay
import Derived.Test.YtjkjnhcnmjknmaaDoorKax
import Derived.Test.YtjkjnhcnmjknmaaDoorKaq
section
namespace Go.Proofs.YtjkjnhcnmjknmaaDoor.Y
open Go.RowKit Go.Proofs.YtjkjnhcnmjknmaaDoorW.PrintWords Go.Proofs.YtjkjnhcnmjknmaaDoorW.PrintLast Go.Proofs.YtjkjnhcnmjknmaaDoorW.PrintMore
attribute [local go_sem] max2_int min2_int max_two min_two max_three min_three max_four min_four   -- for this text's walks alone
set_option linter.unusedVariables false
set_option linter.unusedSimpArgs false
set_option maxHeartbeats 8000000 in
set_option maxRecDepth 100000 in
theorem spec_DrawTold.calls (k : Nat) (A0 : Option Addr) (c0 : Nat) (l0 : List (S33)) (A1 : Option Addr) (c1 : Nat) (l1 : List Int) (r : List ByteArray) (w : World) (hr0 : Kd.C k33 w A0 l0.length l0) (hc0 : l0.length ≤ c0) (hr1 : Kd.C (Kd.int .i64) w A1 l1.length l1) (hc1 : l1.length ≤ c1) (h : spec_DrawTold.f k l0 l1 = some r) :
    Calls Tryd.prog 12 #[.slice A0 l0.length c0, .slice A1 l1.length c1] w fun e w' => ∃ v0_ : Value, e = .returned (v0_) ∧ Kd.R Kd.string 9 w' w.heap.size (fun _ => True) v0_ r ∧ Below w.heap.size w w' := by
  have hu33 := Tryd.underlying33
  have HR0 := Aside0.mk hr0
  have HC0 := Aside0.mk hc0
  clear hr0 hc0
  have HR1 := Aside0.mk hr1
  have HC1 := Aside0.mk hc1
  clear hr1 hc1
  have HB := Aside0.mk (Below.refl w.heap.size w)
  have H : (if 0 ≤ (l1.length : Int) then (if ((l1.length : Int) : Int).toNat ≤ 17592186044416 then (spec_DrawTold.l0 k l1 (List.replicate ((l1.length : Int) : Int).toNat (⟨#[]⟩ : ByteArray)) l0 (l0.length : Int) 0) else (none)) else (none)) = some r := h
  clear h
  by_cases c3 : 0 ≤ (l1.length : Int)
  · rw [if_pos c3] at H
    have c3b0 := eq_true c3
    have c3b1 : decide (0 ≤ (l1.length : Int)) = true := decide_eq_true c3
    clear c3
    by_cases c4 : ((l1.length : Int) : Int).toNat ≤ 17592186044416
    · rw [if_pos c4] at H
      have c4b0 := eq_true c4
      have c4b1 : decide (((l1.length : Int) : Int).toNat ≤ 17592186044416) = true := decide_eq_true c4
      clear c4
      obtain ⟨y177, hy177⟩ : ∃ y_ : List ByteArray, y_ = (List.replicate ((l1.length : Int) : Int).toNat (⟨#[]⟩ : ByteArray)) := ⟨_, rfl⟩
      replace H : (spec_DrawTold.l0 k l1 y177 l0 (l0.length : Int) 0) = some r := by first | (rw [hy177]; with_reducible exact H) | (have H2_ := (Option.bind_some _ _).symm.trans H; rw [hy177]; with_reducible exact H2_) | (have H2_ := (Option.bind_some _ _).symm.trans H; with_reducible exact H2_) | with_reducible exact H | (rw [hy177]; exact H) | exact H
      have Ny177 := Aside0.mk hy177
      clear hy177
      have H' := Aside0.mk H
      clear H
      go_enter Tryd.func12, Tryd.ntmps12
      go_wp2_with (first | ((with_reducible refine gate_dst (N := 12) rfl ?_); refine Kd.R_make Kd.string _ 9 rfl (N := 12) rfl 39 _ _ rfl (l1.length : Int) rfl rfl Tryd.underlying39 (.string ⟨#[]⟩) 16 info9 rfl (by decide) (by omega) (⟨#[]⟩ : ByteArray) (ok := fun _ => True) (okp := fun _ => True) rfl (fun _ hk => hk) trivial (of_decide_eq_true (by first | (with_reducible assumption) | assumption)) (Nat.le_trans (Nat.mul_le_mul_right _ (of_decide_eq_true (by first | (with_reducible assumption) | assumption) : (l1.length : Int).toNat ≤ 17592186044416)) (by omega)) (Below.refl _ _) (Nat.le_refl _) ?_; intro v178 w5 ho6 hb hg_ hnew_; clear hg_ hnew_; (first | rw [← Ny177.out] at ho6 | (simp only [Int.reduceToNat] at ho6; rw [← Ny177.out] at ho6)); have n0_ := Aside0.mk (Kd.R_lower ho6 (below_size (by repeat (first | (with_reducible first | exact HB.out | apply below_alloc | apply pw_below_drewN | apply below_drew1) | exact HB.out)))); have n1_ := Aside0.mk (below_step (by repeat (first | (with_reducible first | exact HB.out | apply below_alloc | apply pw_below_drewN | apply below_drew1) | exact HB.out)) hb); clear HB; have HO179 := n0_; have HB := n1_; clear n0_ n1_; clear hb ho6))
      go_loopg [15] k (fun kq v15 w' => ∃ (x5_1 : List ByteArray) (x15_1 : Int), v15 = .int .i64 x15_1 ∧ Aside0 (spec_DrawTold.l0 kq l1 x5_1 l0 (l0.length : Int) x15_1 = some r) ∧ Aside0 (kq ≤ k) ∧ Aside0 (Kd.R Kd.string 9 w' w.heap.size (fun _ => True) v178 x5_1) ∧ Aside0 (Below w.heap.size w w'))
      case atStart => exact ⟨(y177), (0), (by first | rfl | (simp; done) | (simp [*]; done)), H', ⟨Nat.le_refl _⟩, ⟨by (with_reducible repeat (first | apply Kd.R_alloc | apply Kd.R_drewN | apply Kd.R_drew)); exact HO179.out⟩, ⟨by repeat (first | (with_reducible first | exact HB.out | apply below_alloc | apply pw_below_drewN | apply below_drew1) | exact HB.out)⟩⟩
      case round =>
        clear H'
        try clear c1
        try clear p2
        try clear c3
        try clear c3b0
        try clear c3b1
        try clear c4
        try clear c4b0
        try clear c4b1
        obtain ⟨x5_1, x15_1, rfl, HA, HK1, HO_5, HB⟩ := hrel
        cases gk with
        | zero => exact absurd HA.out (by simp [spec_DrawTold.l0])
        | succ k1 =>
          have H := HA.out
          clear HA
          simp only [spec_DrawTold.l0] at H
          by_cases c7 : x15_1 < (l0.length : Int)
          · rw [if_pos c7] at H
            have c7b0 : decide (x15_1 < (l0.length : Int)) = true := decide_eq_true c7
            clear c7
            by_cases c8 : 0 ≤ x15_1
            · rw [if_pos c8] at H
              have c8b0 : decide (0 ≤ x15_1) = true := decide_eq_true c8
              clear c8
              by_cases c9 : x15_1 < (l0.length : Int)
              · rw [if_pos c9] at H
                have c9b0 : decide (x15_1 < (l0.length : Int)) = true := decide_eq_true c9
                clear c9
                have H' := Aside0.mk H
                clear H
                have p180 : 0 ≤ (x15_1 : Int) := of_decide_eq_true (by first | (with_reducible assumption) | assumption)
                have q180 : x15_1 < (l0.length : Int) := of_decide_eq_true (by first | (with_reducible assumption) | assumption)
                obtain ⟨ad180, A180_4, c180_4, A180_5, c180_5, e180, hx180_0, hx180_1, hx180_2, hx180_3, hx180_4, hx180_5, hl180_4, hi180_4, hl180_5, hi180_5⟩ := at_T33 HR0.out x15_1 p180 q180
                cases e180
                replace hx180_0 := (HB.out.cell (World.block_lt_of_cell? w _ hx180_0)).trans hx180_0
                replace hx180_1 := (HB.out.cell (World.block_lt_of_cell? w _ hx180_1)).trans hx180_1
                replace hx180_2 := (HB.out.cell (World.block_lt_of_cell? w _ hx180_2)).trans hx180_2
                replace hx180_3 := (HB.out.cell (World.block_lt_of_cell? w _ hx180_3)).trans hx180_3
                replace hx180_4 := (HB.out.cell (World.block_lt_of_cell? w _ hx180_4)).trans hx180_4
                replace hx180_5 := (HB.out.cell (World.block_lt_of_cell? w _ hx180_5)).trans hx180_5
                have HR180_4 := Aside0.mk hi180_4
                have HC180_4 := Aside0.mk hl180_4
                clear hi180_4 hl180_4
                have HR180_5 := Aside0.mk hi180_5
                have HC180_5 := Aside0.mk hl180_5
                clear hi180_5 hl180_5
                replace p180 := eq_true p180
                replace q180 := eq_true q180
                go_wp2_with (first | ((with_reducible refine gate_dst (N := 7) rfl ?_); refine box_event ?hg (N := 7) ?hd (cs := #[.int .i64 0, .int .i64 0, .int .u8 0, .int .i64 0, .slice none 0 0, .slice none 0 0]) (t := 33) ?hr ?_; (case hd => rfl); (case hg => rfl); (case hr => first | (go_simp; done) | (go_simp; rfl)); intro gb181 hg w10 hbox hb; have n0_ := Aside0.mk (Kd.R_below (by (with_reducible repeat (first | apply Kd.R_alloc | apply Kd.R_drewN | apply Kd.R_drew)); exact HO_5.out) hb); have n1_ := Aside0.mk (below_step (by repeat (first | (with_reducible first | exact HB.out | apply below_alloc | apply pw_below_drewN | apply below_drew1) | exact HB.out)) hb); have n2_ := Aside0.mk (hbox); have n3_ := Aside0.mk ((by rw [hg]; exact (below_size (by repeat (first | (with_reducible first | exact HB.out | apply below_alloc | apply pw_below_drewN | apply below_drew1) | exact HB.out))) : w.heap.size ≤ gb181)); have n4_ := Aside0.mk ((by rw [hg]; exact (below_size (by repeat (first | (with_reducible first | exact HB.out | apply below_alloc | apply pw_below_drewN | apply below_drew1) | exact HB.out))) : w.heap.size ≤ gb181)); clear HO_5; clear HB; have HO_5 := n0_; have HB := n1_; have BK181 := n2_; have GW181 := n3_; have GE181 := n4_; clear n0_ n1_ n2_ n3_ n4_; clear hb hbox hg; have hcz11_0 : w10.cell? ⟨gb181, 0, none⟩ = some (.int .i64 0) := (blk_cell BK181.out 0).trans rfl; have hcz11_1 : w10.cell? ⟨gb181, 1, none⟩ = some (.int .i64 0) := (blk_cell BK181.out 1).trans rfl; have hcz11_2 : w10.cell? ⟨gb181, 2, none⟩ = some (.int .u8 0) := (blk_cell BK181.out 2).trans rfl; have hcz11_3 : w10.cell? ⟨gb181, 3, none⟩ = some (.int .i64 0) := (blk_cell BK181.out 3).trans rfl; have hcz11_4 : w10.cell? ⟨gb181, 4, none⟩ = some (.slice none 0 0) := (blk_cell BK181.out 4).trans rfl; have hcz11_5 : w10.cell? ⟨gb181, 5, none⟩ = some (.slice none 0 0) := (blk_cell BK181.out 5).trans rfl; have hfz11_0 := blk_frozen BK181.out 0; have hfz11_1 := blk_frozen BK181.out 1; have hfz11_2 := blk_frozen BK181.out 2; have hfz11_3 := blk_frozen BK181.out 3; have hfz11_4 := blk_frozen BK181.out 4; have hfz11_5 := blk_frozen BK181.out 5))
                go_loopg [21] k1 (fun kq v21 w' => ∃ (x5_2 : List ByteArray) (x21_2 : Int), v21 = .int .i64 x21_2 ∧ Aside0 (spec_DrawTold.l1 kq l1 x5_2 l0 (l0.length : Int) x15_1 l1 (l1.length : Int) x21_2 ((rd_T33 l0 x15_1).f0) ((rd_T33 l0 x15_1).f1) ((rd_T33 l0 x15_1).f2) ((rd_T33 l0 x15_1).f3) ((rd_T33 l0 x15_1).f4) ((rd_T33 l0 x15_1).f5) = some r) ∧ Aside0 (kq ≤ k1) ∧ Aside0 (Kd.R Kd.string 9 w' w.heap.size (fun _ => True) v178 x5_2) ∧ Aside0 (w'.heap[gb181]? = some (.cells #[.int .i64 ((rd_T33 l0 x15_1).f0), .int .i64 ((rd_T33 l0 x15_1).f1), .int .u8 ((rd_T33 l0 x15_1).f2), .int .i64 ((rd_T33 l0 x15_1).f3), (.slice A180_4 ((rd_T33 l0 x15_1).f4).length c180_4), (.slice A180_5 ((rd_T33 l0 x15_1).f5).length c180_5)] 33 (0, 0))) ∧ Aside0 (Below w.heap.size w w'))
                case atStart => exact ⟨(x5_1), (0), (by first | rfl | (simp; done) | (simp [*]; done)), H', ⟨Nat.le_refl _⟩, ⟨by (with_reducible repeat (first | apply Kd.R_alloc | apply Kd.R_drewN | apply Kd.R_drew)); exact Kd.R_mono (Kd.R_far (p := ⟨gb181, 5, none⟩) (Kd.R_far (p := ⟨gb181, 4, none⟩) (Kd.R_far (p := ⟨gb181, 3, none⟩) (Kd.R_far (p := ⟨gb181, 2, none⟩) (Kd.R_far (p := ⟨gb181, 1, none⟩) (Kd.R_far (p := ⟨gb181, 0, none⟩) (Kd.R_types HO_5.out BK181.out (by decide)) (fun _ hk => hk.2) (.int .i64 ((rd_T33 l0 x15_1).f0))) (fun _ hk => hk.2) (.int .i64 ((rd_T33 l0 x15_1).f1))) (fun _ hk => hk.2) (.int .u8 ((rd_T33 l0 x15_1).f2))) (fun _ hk => hk.2) (.int .i64 ((rd_T33 l0 x15_1).f3))) (fun _ hk => hk.2) (.slice A180_4 ((rd_T33 l0 x15_1).f4).length c180_4)) (fun _ hk => hk.2) (.slice A180_5 ((rd_T33 l0 x15_1).f5).length c180_5)) (fun _ hk => trivial)⟩, ⟨by (with_reducible repeat (first | refine blk_drewN ?_ _ | refine blk_drew ?_ | refine blk_alloc ?_ _)); refine blk_put (cs := #[.int .i64 ((rd_T33 l0 x15_1).f0), .int .i64 ((rd_T33 l0 x15_1).f1), .int .u8 ((rd_T33 l0 x15_1).f2), .int .i64 ((rd_T33 l0 x15_1).f3), .slice A180_4 ((rd_T33 l0 x15_1).f4).length c180_4, .slice none 0 0]) ?_ 5 _ rfl; (with_reducible repeat (first | refine blk_drewN ?_ _ | refine blk_drew ?_ | refine blk_alloc ?_ _)); refine blk_put (cs := #[.int .i64 ((rd_T33 l0 x15_1).f0), .int .i64 ((rd_T33 l0 x15_1).f1), .int .u8 ((rd_T33 l0 x15_1).f2), .int .i64 ((rd_T33 l0 x15_1).f3), .slice none 0 0, .slice none 0 0]) ?_ 4 _ rfl; (with_reducible repeat (first | refine blk_drewN ?_ _ | refine blk_drew ?_ | refine blk_alloc ?_ _)); refine blk_put (cs := #[.int .i64 ((rd_T33 l0 x15_1).f0), .int .i64 ((rd_T33 l0 x15_1).f1), .int .u8 ((rd_T33 l0 x15_1).f2), .int .i64 0, .slice none 0 0, .slice none 0 0]) ?_ 3 _ rfl; (with_reducible repeat (first | refine blk_drewN ?_ _ | refine blk_drew ?_ | refine blk_alloc ?_ _)); refine blk_put (cs := #[.int .i64 ((rd_T33 l0 x15_1).f0), .int .i64 ((rd_T33 l0 x15_1).f1), .int .u8 0, .int .i64 0, .slice none 0 0, .slice none 0 0]) ?_ 2 _ rfl; (with_reducible repeat (first | refine blk_drewN ?_ _ | refine blk_drew ?_ | refine blk_alloc ?_ _)); refine blk_put (cs := #[.int .i64 ((rd_T33 l0 x15_1).f0), .int .i64 0, .int .u8 0, .int .i64 0, .slice none 0 0, .slice none 0 0]) ?_ 1 _ rfl; (with_reducible repeat (first | refine blk_drewN ?_ _ | refine blk_drew ?_ | refine blk_alloc ?_ _)); refine blk_put (cs := #[.int .i64 0, .int .i64 0, .int .u8 0, .int .i64 0, .slice none 0 0, .slice none 0 0]) ?_ 0 _ rfl; (with_reducible repeat (first | refine blk_drewN ?_ _ | refine blk_drew ?_ | refine blk_alloc ?_ _)); exact BK181.out⟩, ⟨by repeat (first | (with_reducible first | exact HB.out | apply below_alloc | apply pw_below_drewN | apply below_drew1 | refine below_set ?_ GE181.out) | exact HB.out)⟩⟩
                case round =>
                  clear H'
                  try clear c1
                  try clear p1
                  try clear q1
                  try clear hx1
                  try clear p2
                  try clear c3
                  try clear c3b0
                  try clear c3b1
                  try clear c4
                  try clear c4b0
                  try clear c4b1
                  try clear c7
                  try clear c7b0
                  try clear c8
                  try clear c8b0
                  try clear c9
                  try clear c9b0
                  try clear hcz11_0
                  try clear hcz11_1
                  try clear hcz11_2
                  try clear hcz11_3
                  try clear hcz11_4
                  try clear hcz11_5
                  try clear hfz11_0
                  try clear hfz11_1
                  try clear hfz11_2
                  try clear hfz11_3
                  try clear hfz11_4
                  try clear hfz11_5
                  try clear hx180_0
                  try clear hx180_1
                  try clear hx180_2
                  try clear hx180_3
                  try clear hx180_4
                  try clear hx180_5
                  try clear p180
                  try clear p2
                  try clear q180
                  obtain ⟨x5_2, x21_2, rfl, HA, HK2, HO_5, BK181, HB⟩ := hrel
                  cases gk with
                  | zero => exact absurd HA.out (by simp [spec_DrawTold.l1])
                  | succ k2 =>
                    have H := HA.out
                    clear HA
                    simp only [spec_DrawTold.l1] at H
                    by_cases c12 : x21_2 < (l1.length : Int)
                    · rw [if_pos c12] at H
                      have c12b0 : decide (x21_2 < (l1.length : Int)) = true := decide_eq_true c12
                      clear c12
                      by_cases c13 : 0 ≤ x21_2
                      · rw [if_pos c13] at H
                        have c13b0 : decide (0 ≤ x21_2) = true := decide_eq_true c13
                        clear c13
                        by_cases c14 : x21_2 < (l1.length : Int)
                        · rw [if_pos c14] at H
                          have c14b0 : decide (x21_2 < (l1.length : Int)) = true := decide_eq_true c14
                          clear c14
                          by_cases c15 : ((rd_T33 l0 x15_1).f0) = 5
                          · rw [if_pos c15] at H
                            have c15b0 : (((rd_T33 l0 x15_1).f0) == 5) = true := beq_iff_eq.mpr c15
                            have c15b1 : (((rd_T33 l0 x15_1).f0) != 5) = false := bne_eq_false_iff_eq.mpr c15
                            clear c15
                            by_cases c16 : ((rd_T33 l0 x15_1).f3) = (rd l1 x21_2)
                            · rw [if_pos c16] at H
                              have c16b0 : (((rd_T33 l0 x15_1).f3) == (rd l1 x21_2)) = true := beq_iff_eq.mpr c16
                              have c16b1 : (((rd_T33 l0 x15_1).f3) != (rd l1 x21_2)) = false := bne_eq_false_iff_eq.mpr c16
                              clear c16
                              replace H := Option.bind_eq_some_iff.mp H
                              obtain ⟨t183, A170, H⟩ := H
                              replace H : (if x21_2 < (x5_2.length : Int) then (spec_DrawTold.l1 k2 l1 (x5_2.set (x21_2 : Int).toNat t183) l0 (l0.length : Int) x15_1 l1 (l1.length : Int) (wrap64 (x21_2 + 1)) ((rd_T33 l0 x15_1).f0) ((rd_T33 l0 x15_1).f1) ((rd_T33 l0 x15_1).f2) ((rd_T33 l0 x15_1).f3) ((rd_T33 l0 x15_1).f4) ((rd_T33 l0 x15_1).f5)) else (none)) = some r := H
                              have A17 := Aside0.mk A170
                              clear A170
                              by_cases c18 : x21_2 < (x5_2.length : Int)
                              · rw [if_pos c18] at H
                                have c18b0 : decide (x21_2 < (x5_2.length : Int)) = true := decide_eq_true c18
                                clear c18
                                obtain ⟨y184, hy184⟩ : ∃ y_ : List ByteArray, y_ = (x5_2.set (x21_2 : Int).toNat t183) := ⟨_, rfl⟩
                                replace H : (spec_DrawTold.l1 k2 l1 y184 l0 (l0.length : Int) x15_1 l1 (l1.length : Int) (wrap64 (x21_2 + 1)) ((rd_T33 l0 x15_1).f0) ((rd_T33 l0 x15_1).f1) ((rd_T33 l0 x15_1).f2) ((rd_T33 l0 x15_1).f3) ((rd_T33 l0 x15_1).f4) ((rd_T33 l0 x15_1).f5)) = some r := by first | (rw [hy184]; with_reducible exact H) | (have H2_ := (Option.bind_some _ _).symm.trans H; rw [hy184]; with_reducible exact H2_) | (have H2_ := (Option.bind_some _ _).symm.trans H; with_reducible exact H2_) | with_reducible exact H | (rw [hy184]; exact H) | exact H
                                have Ny184 := Aside0.mk hy184
                                clear hy184
                                have H' := Aside0.mk H
                                clear H
                                have p182 : 0 ≤ (x21_2 : Int) := of_decide_eq_true (by first | (with_reducible assumption) | assumption)
                                have q182 : x21_2 < (l1.length : Int) := of_decide_eq_true (by first | (with_reducible assumption) | assumption)
                                obtain ⟨ad182, e182, hx182_0⟩ := Kd.at_int HR1.out x21_2 p182 q182
                                cases e182
                                replace hx182_0 := (HB.out.cell (World.block_lt_of_cell? w _ hx182_0)).trans hx182_0
                                replace p182 := eq_true p182
                                replace q182 := eq_true q182
                                have hcz20_0 : wr.cell? ⟨gb181, 0, none⟩ = some (.int .i64 ((rd_T33 l0 x15_1).f0)) := (blk_cell BK181.out 0).trans rfl
                                have hcz20_1 : wr.cell? ⟨gb181, 1, none⟩ = some (.int .i64 ((rd_T33 l0 x15_1).f1)) := (blk_cell BK181.out 1).trans rfl
                                have hcz20_2 : wr.cell? ⟨gb181, 2, none⟩ = some (.int .u8 ((rd_T33 l0 x15_1).f2)) := (blk_cell BK181.out 2).trans rfl
                                have hcz20_3 : wr.cell? ⟨gb181, 3, none⟩ = some (.int .i64 ((rd_T33 l0 x15_1).f3)) := (blk_cell BK181.out 3).trans rfl
                                have hcz20_4 : wr.cell? ⟨gb181, 4, none⟩ = some (.slice A180_4 ((rd_T33 l0 x15_1).f4).length c180_4) := (blk_cell BK181.out 4).trans rfl
                                have hcz20_5 : wr.cell? ⟨gb181, 5, none⟩ = some (.slice A180_5 ((rd_T33 l0 x15_1).f5).length c180_5) := (blk_cell BK181.out 5).trans rfl
                                have hfz20_0 := blk_frozen BK181.out 0
                                have hfz20_1 := blk_frozen BK181.out 1
                                have hfz20_2 := blk_frozen BK181.out 2
                                have hfz20_3 := blk_frozen BK181.out 3
                                have hfz20_4 := blk_frozen BK181.out 4
                                have hfz20_5 := blk_frozen BK181.out 5
                                have hcv21 := Kd.C_string (P := Tryd.prog) (A := A180_5) (c := c180_5) Tryd.underlying28 Tryd.underlying5 Tryd.underlying9 (Kd.C_below HR180_5.out HB.out)
                                go_wp2_with (first | ((with_reducible refine gate_callee (f := 55) rfl ?_); refine goesL_ (some 40) rfl rfl Tryd.func55 (by kernel_rfl) rfl #[.string (strOfNums ((rd_T33 l0 x15_1).f5)), .int .i64 1] rfl (by (try simp only [List.map_toArray, List.map_cons, List.map_nil]); first | done | rfl | (simp only [List.length_drop, List.length_take]; rfl)) ?_; (with_reducible refine (spec_drawBehind.calls k2 (strOfNums ((rd_T33 l0 x15_1).f5)) 1 t183 _ A17.out).mono ?_); rintro e w' ⟨rfl, ⟨nd, rfl⟩⟩; refine ⟨_, rfl, ?_⟩; (try (rw [drewN_self wr]; generalize hq_ : World.drewN wr _ = wr; have n0_ : Aside0 (Kd.R Kd.string 9 wr w.heap.size (fun _ => True) v178 x5_2) := ⟨by rw [← hq_]; exact (by (with_reducible repeat (first | apply Kd.R_alloc | apply Kd.R_drewN | apply Kd.R_drew)); exact HO_5.out)⟩; have n1_ : Aside0 (wr.heap[gb181]? = some (.cells #[.int .i64 ((rd_T33 l0 x15_1).f0), .int .i64 ((rd_T33 l0 x15_1).f1), .int .u8 ((rd_T33 l0 x15_1).f2), .int .i64 ((rd_T33 l0 x15_1).f3), .slice A180_4 ((rd_T33 l0 x15_1).f4).length c180_4, .slice A180_5 ((rd_T33 l0 x15_1).f5).length c180_5] 33 (0, 0))) := ⟨by rw [← hq_]; exact (by (with_reducible repeat (first | refine blk_drewN ?_ _ | refine blk_drew ?_ | refine blk_alloc ?_ _)); exact BK181.out)⟩; have n2_ : Aside0 (Below w.heap.size w wr) := ⟨by rw [← hq_]; exact (by repeat (first | (with_reducible first | exact HB.out | apply below_alloc | apply pw_below_drewN | apply below_drew1 | refine below_set ?_ GE181.out) | exact HB.out))⟩; clear HO_5 BK181 HB hq_; have HO_5 := n0_; have BK181 := n1_; have HB := n2_; clear n0_ n1_ n2_)); have p19 : 0 ≤ (x21_2 : Int) := of_decide_eq_true (by first | (with_reducible assumption) | assumption); have q19 : (x21_2 : Int) < ((x5_2.length : Int) : Int) := of_decide_eq_true (by first | (with_reducible assumption) | assumption); obtain ⟨go19, co19, eo19, gb19, gl19, cl19, HG19⟩ := Kd.R_form HO_5.out (by omega); (first | cases eo19 | (injection eo19 with ea_ en_ ec_; (first | subst ea_ | (injection ea_ with ea_; subst ea_)); subst ec_; clear en_)); have GB19 := Aside0.mk gb19; have GG19 := Aside0.mk HG19; clear gb19 gl19 HG19; obtain ⟨hx19_0, hf19_0⟩ := Kd.R_celln (⟨#[]⟩ : ByteArray) HO_5.out (x21_2 : Int) p19 q19; replace p19 := eq_true p19; replace q19 := eq_true q19; obtain ⟨hy22_, hz22_⟩ := Kd.R_celln (⟨#[]⟩ : ByteArray) HO_5.out (x21_2 : Int) (of_decide_eq_true (by first | (with_reducible assumption) | assumption)) (of_decide_eq_true (by first | (with_reducible assumption) | assumption)); have HP22 := Kd.R_putg HO_5.out (x21_2 : Int) t183) | ((with_reducible refine gate_store (t := 9) (p := 41) rfl ?_); refine store_event (t := 9) (p := 41) (v := ?vo_w23) (w1 := (wr.setCell ⟨go19, (x21_2 : Int).toNat, none⟩ (.string t183))) ?hg ?ho ?hn ?hr ?_; (case ho => rfl); (case hg => rfl); (case hn => rfl); (case hr => first | (go_simp; done) | (go_simp; rfl)); intro w23 hw; have hg : wr.grownBy w23 (some go19) := (by rw [hw]; exact HP22.2); have hp_ : Kd.R Kd.string 9 w23 w.heap.size (fun _ => True) (.slice (some ⟨go19, 0, none⟩) x5_2.length co19) y184 := (by rw [hw, Ny184.out]; exact HP22.1); clear HP22; have n0_ := Aside0.mk (hp_); have n1_ := Aside0.mk (blk_grown (g := gb181) (o := .cells #[.int .i64 ((rd_T33 l0 x15_1).f0), .int .i64 ((rd_T33 l0 x15_1).f1), .int .u8 ((rd_T33 l0 x15_1).f2), .int .i64 ((rd_T33 l0 x15_1).f3), .slice A180_4 ((rd_T33 l0 x15_1).f4).length c180_4, .slice A180_5 ((rd_T33 l0 x15_1).f5).length c180_5] 33 (0, 0)) (by (with_reducible repeat (first | refine blk_drewN ?_ _ | refine blk_drew ?_ | refine blk_alloc ?_ _)); exact BK181.out) hg (Kd.R_ne HO_5.out BK181.out (by decide))); have n2_ := Aside0.mk ((by rw [hw]; exact below_set (HB.out) GB19.out : Below w.heap.size w w23)); clear HO_5; clear BK181; clear HB; have HO_5 := n0_; have BK181 := n1_; have HB := n2_; clear n0_ n1_ n2_; clear hg hw hp_))
                                go_roundg k2
                                case measure => have := HK1.out; have := HK2.out; omega
                                case rel => exact ⟨(y184), (wrap64 (x21_2 + 1)), (by first | rfl | (simp; done) | (simp [*]; done)), H', ⟨by have := HK1.out; have := HK2.out; omega⟩, ⟨by (with_reducible repeat (first | apply Kd.R_alloc | apply Kd.R_drewN | apply Kd.R_drew)); exact HO_5.out⟩, ⟨by (with_reducible repeat (first | refine blk_drewN ?_ _ | refine blk_drew ?_ | refine blk_alloc ?_ _)); exact BK181.out⟩, ⟨by repeat (first | (with_reducible first | exact HB.out | apply below_alloc | apply pw_below_drewN | apply below_drew1 | refine below_set ?_ GE181.out) | exact HB.out)⟩⟩
                              · rw [if_neg c18] at H
                                exact absurd H (by simp)
                            · rw [if_neg c16] at H
                              have c16b0 : (((rd_T33 l0 x15_1).f3) == (rd l1 x21_2)) = false := beq_eq_false_iff_ne.mpr c16
                              have c16b1 : (((rd_T33 l0 x15_1).f3) != (rd l1 x21_2)) = true := bne_iff_ne.mpr c16
                              have H' := Aside0.mk H
                              clear H
                              have p182 : 0 ≤ (x21_2 : Int) := of_decide_eq_true (by first | (with_reducible assumption) | assumption)
                              have q182 : x21_2 < (l1.length : Int) := of_decide_eq_true (by first | (with_reducible assumption) | assumption)
                              obtain ⟨ad182, e182, hx182_0⟩ := Kd.at_int HR1.out x21_2 p182 q182
                              cases e182
                              replace hx182_0 := (HB.out.cell (World.block_lt_of_cell? w _ hx182_0)).trans hx182_0
                              replace p182 := eq_true p182
                              replace q182 := eq_true q182
                              have hcz24_0 : wr.cell? ⟨gb181, 0, none⟩ = some (.int .i64 ((rd_T33 l0 x15_1).f0)) := (blk_cell BK181.out 0).trans rfl
                              have hcz24_1 : wr.cell? ⟨gb181, 1, none⟩ = some (.int .i64 ((rd_T33 l0 x15_1).f1)) := (blk_cell BK181.out 1).trans rfl
                              have hcz24_2 : wr.cell? ⟨gb181, 2, none⟩ = some (.int .u8 ((rd_T33 l0 x15_1).f2)) := (blk_cell BK181.out 2).trans rfl
                              have hcz24_3 : wr.cell? ⟨gb181, 3, none⟩ = some (.int .i64 ((rd_T33 l0 x15_1).f3)) := (blk_cell BK181.out 3).trans rfl
                              have hcz24_4 : wr.cell? ⟨gb181, 4, none⟩ = some (.slice A180_4 ((rd_T33 l0 x15_1).f4).length c180_4) := (blk_cell BK181.out 4).trans rfl
                              have hcz24_5 : wr.cell? ⟨gb181, 5, none⟩ = some (.slice A180_5 ((rd_T33 l0 x15_1).f5).length c180_5) := (blk_cell BK181.out 5).trans rfl
                              have hfz24_0 := blk_frozen BK181.out 0
                              have hfz24_1 := blk_frozen BK181.out 1
                              have hfz24_2 := blk_frozen BK181.out 2
                              have hfz24_3 := blk_frozen BK181.out 3
                              have hfz24_4 := blk_frozen BK181.out 4
                              have hfz24_5 := blk_frozen BK181.out 5
                              go_wp2
                              go_roundg k2
                              case measure => have := HK1.out; have := HK2.out; omega
                              case rel => exact ⟨(x5_2), (wrap64 (x21_2 + 1)), (by first | rfl | (simp; done) | (simp [*]; done)), H', ⟨by have := HK1.out; have := HK2.out; omega⟩, ⟨by (with_reducible repeat (first | apply Kd.R_alloc | apply Kd.R_drewN | apply Kd.R_drew)); exact HO_5.out⟩, ⟨by (with_reducible repeat (first | refine blk_drewN ?_ _ | refine blk_drew ?_ | refine blk_alloc ?_ _)); exact BK181.out⟩, ⟨by repeat (first | (with_reducible first | exact HB.out | apply below_alloc | apply pw_below_drewN | apply below_drew1 | refine below_set ?_ GE181.out) | exact HB.out)⟩⟩
                          · rw [if_neg c15] at H
                            have c15b0 : (((rd_T33 l0 x15_1).f0) == 5) = false := beq_eq_false_iff_ne.mpr c15
                            have c15b1 : (((rd_T33 l0 x15_1).f0) != 5) = true := bne_iff_ne.mpr c15
                            have H' := Aside0.mk H
                            clear H
                            have p182 : 0 ≤ (x21_2 : Int) := of_decide_eq_true (by first | (with_reducible assumption) | assumption)
                            have q182 : x21_2 < (l1.length : Int) := of_decide_eq_true (by first | (with_reducible assumption) | assumption)
                            obtain ⟨ad182, e182, hx182_0⟩ := Kd.at_int HR1.out x21_2 p182 q182
                            cases e182
                            replace hx182_0 := (HB.out.cell (World.block_lt_of_cell? w _ hx182_0)).trans hx182_0
                            replace p182 := eq_true p182
                            replace q182 := eq_true q182
                            have hcz25_0 : wr.cell? ⟨gb181, 0, none⟩ = some (.int .i64 ((rd_T33 l0 x15_1).f0)) := (blk_cell BK181.out 0).trans rfl
                            have hcz25_1 : wr.cell? ⟨gb181, 1, none⟩ = some (.int .i64 ((rd_T33 l0 x15_1).f1)) := (blk_cell BK181.out 1).trans rfl
                            have hcz25_2 : wr.cell? ⟨gb181, 2, none⟩ = some (.int .u8 ((rd_T33 l0 x15_1).f2)) := (blk_cell BK181.out 2).trans rfl
                            have hcz25_3 : wr.cell? ⟨gb181, 3, none⟩ = some (.int .i64 ((rd_T33 l0 x15_1).f3)) := (blk_cell BK181.out 3).trans rfl
                            have hcz25_4 : wr.cell? ⟨gb181, 4, none⟩ = some (.slice A180_4 ((rd_T33 l0 x15_1).f4).length c180_4) := (blk_cell BK181.out 4).trans rfl
                            have hcz25_5 : wr.cell? ⟨gb181, 5, none⟩ = some (.slice A180_5 ((rd_T33 l0 x15_1).f5).length c180_5) := (blk_cell BK181.out 5).trans rfl
                            have hfz25_0 := blk_frozen BK181.out 0
                            have hfz25_1 := blk_frozen BK181.out 1
                            have hfz25_2 := blk_frozen BK181.out 2
                            have hfz25_3 := blk_frozen BK181.out 3
                            have hfz25_4 := blk_frozen BK181.out 4
                            have hfz25_5 := blk_frozen BK181.out 5
                            go_wp2
                            go_roundg k2
                            case measure => have := HK1.out; have := HK2.out; omega
                            case rel => exact ⟨(x5_2), (wrap64 (x21_2 + 1)), (by first | rfl | (simp; done) | (simp [*]; done)), H', ⟨by have := HK1.out; have := HK2.out; omega⟩, ⟨by (with_reducible repeat (first | apply Kd.R_alloc | apply Kd.R_drewN | apply Kd.R_drew)); exact HO_5.out⟩, ⟨by (with_reducible repeat (first | refine blk_drewN ?_ _ | refine blk_drew ?_ | refine blk_alloc ?_ _)); exact BK181.out⟩, ⟨by repeat (first | (with_reducible first | exact HB.out | apply below_alloc | apply pw_below_drewN | apply below_drew1 | refine below_set ?_ GE181.out) | exact HB.out)⟩⟩
                        · rw [if_neg c14] at H
                          exact absurd H (by simp)
                      · rw [if_neg c13] at H
                        exact absurd H (by simp)
                    · rw [if_neg c12] at H
                      have c12b0 : decide (x21_2 < (l1.length : Int)) = false := decide_eq_false c12
                      clear c12
                      have H' := Aside0.mk H
                      clear H
                      go_wp2
                      go_roundg k2
                      case measure => have := HK1.out; have := HK2.out; omega
                      case rel => exact ⟨(x5_2), (wrap64 (x15_1 + 1)), (by first | rfl | (simp; done) | (simp [*]; done)), H', ⟨by have := HK1.out; have := HK2.out; omega⟩, ⟨by (with_reducible repeat (first | apply Kd.R_alloc | apply Kd.R_drewN | apply Kd.R_drew)); exact HO_5.out⟩, ⟨by repeat (first | (with_reducible first | exact HB.out | apply below_alloc | apply pw_below_drewN | apply below_drew1 | refine below_set ?_ GE181.out) | exact HB.out)⟩⟩
              · rw [if_neg c9] at H
                exact absurd H (by simp)
            · rw [if_neg c8] at H
              exact absurd H (by simp)
          · rw [if_neg c7] at H
            have c7b0 : decide (x15_1 < (l0.length : Int)) = false := decide_eq_false c7
            clear c7
            obtain rfl := Option.some.inj H
            go_wp2
            go_ret
            exact ⟨_, by first | rfl | (simp [errW_none, errW_some] <;> rfl) | (simp [*, errW_none, errW_some] <;> rfl), by (with_reducible repeat (first | apply Kd.R_alloc | apply Kd.R_drewN | apply Kd.R_drew)); exact HO_5.out, by repeat (first | (with_reducible first | exact HB.out | apply below_alloc | apply pw_below_drewN | apply below_drew1) | exact HB.out)⟩
    · rw [if_neg c4] at H
      exact absurd H (by simp)
  · rw [if_neg c3] at H
    exact absurd H (by simp)
end Go.Proofs.YtjkjnhcnmjknmaaDoor.Y
end
section
namespace Go.Proofs.YtjkjnhcnmjknmaaDoor.Y
open Go.RowKit Go.Proofs.YtjkjnhcnmjknmaaDoorW.PrintWords Go.Proofs.YtjkjnhcnmjknmaaDoorW.PrintLast Go.Proofs.YtjkjnhcnmjknmaaDoorW.PrintMore
attribute [local go_sem] max2_int min2_int max_two min_two max_three min_three max_four min_four   -- for this text's walks alone
set_option linter.unusedVariables false
set_option linter.unusedSimpArgs false
set_option maxHeartbeats 8000000 in
set_option maxRecDepth 100000 in
theorem laws_drawEvents.calls (k : Nat) (P0_ : Nat → Prop) (A0 : Option Addr) (c0 : Nat) (l0 : List (S30)) (r : List (S33)) (w : World) (hs0 : Kd.V k30 30 w w.heap.size (fun k_ => P0_ k_) (.slice A0 l0.length c0) l0) (h : laws_drawEvents.f k l0 = some r) :
    Calls Tryd.prog 13 #[.slice A0 l0.length c0] w fun e w' => ∃ v0_ : Value, e = .returned (v0_) ∧ Kd.N k33 33 w' w.heap.size (fun k_ => (P0_ k_ ∨ w.heap.size ≤ k_)) v0_ r ∧ Below w.heap.size w w' := by
  have hu30 := Tryd.underlying30
  have HO0 := Aside0.mk (show Kd.V k30 30 w w.heap.size (fun k_ => (P0_ k_ ∨ w.heap.size ≤ k_)) (.slice A0 l0.length c0) l0 from Kd.V_mono hs0 (fun k_ hk => .inl hk))
  have HB := Aside0.mk (Below.refl w.heap.size w)
  have H : (laws_drawEvents.l0 k ([] : List (S33)) l0 (l0.length : Int) 0) = some r := h
  clear h
  have H' := Aside0.mk H
  clear H
  go_enter Tryd.func13, Tryd.ntmps13
  go_wp2
  go_loopg [3, 8] k (fun kq v3 v8 w' => ∃ (x3_1 : List (S33)) (x8_1 : Int), v8 = .int .i64 x8_1 ∧ Aside0 (laws_drawEvents.l0 kq x3_1 l0 (l0.length : Int) x8_1 = some r) ∧ Aside0 (kq ≤ k) ∧ Aside0 (Kd.N k33 33 w' w.heap.size (fun k_ => (P0_ k_ ∨ w.heap.size ≤ k_)) v3 x3_1) ∧ Aside0 (Kd.V k30 30 w' w.heap.size (fun k_ => (P0_ k_ ∨ w.heap.size ≤ k_) ∧ some k_ ≠ (v3 : Value).ownBlock) (.slice A0 l0.length c0) l0) ∧ Aside0 (Below w.heap.size w w'))
  case atStart => exact ⟨(([] : List (S33))), (0), (by first | rfl | (simp; done) | (simp [*]; done)), H', ⟨Nat.le_refl _⟩, ⟨by first | exact Kd.S_nil _ _ _ _ _ | exact Kd.N_nil _ _ _ _ _ | exact Kd.V_nil _ _ _ _ _ | exact Kd.Q_nil _ _ _ _ _ | exact Kd.R_nil _ _ _ _ _⟩, ⟨by (with_reducible repeat (first | apply Kd.V_alloc | apply Kd.V_drewN | apply Kd.V_drew)); exact Kd.V_mono HO0.out (fun _ hk => ⟨hk, (by simp [Value.ownBlock])⟩)⟩, ⟨by repeat (first | (with_reducible first | exact HB.out | apply below_alloc | apply pw_below_drewN | apply below_drew1) | exact HB.out)⟩⟩
  case round =>
    clear H'
    try clear c1
    obtain ⟨x3_1, x8_1, rfl, HA, HK1, HO_3, HO_6, HB⟩ := hrel
    cases gk with
    | zero => exact absurd HA.out (by simp [laws_drawEvents.l0])
    | succ k1 =>
      have H := HA.out
      clear HA
      simp only [laws_drawEvents.l0] at H
      by_cases c2 : x8_1 < (l0.length : Int)
      · rw [if_pos c2] at H
        have c2b0 : decide (x8_1 < (l0.length : Int)) = true := decide_eq_true c2
        clear c2
        by_cases c3 : 0 ≤ x8_1
        · rw [if_pos c3] at H
          have c3b0 : decide (0 ≤ x8_1) = true := decide_eq_true c3
          clear c3
          by_cases c4 : x8_1 < (l0.length : Int)
          · rw [if_pos c4] at H
            have c4b0 : decide (x8_1 < (l0.length : Int)) = true := decide_eq_true c4
            clear c4
            by_cases c5 : x3_1.length < 1759218604441
            · rw [if_pos c5] at H
              have LMc5 := Aside0.mk c5
              clear c5
              obtain ⟨y187, hy187⟩ : ∃ y_ : List (S33), y_ = (x3_1 ++ [(⟨(rd_T30 l0 x8_1).f0, (rd_T30 l0 x8_1).f1, (rd_T30 l0 x8_1).f2, (rd_T30 l0 x8_1).f3, (rd_T30 l0 x8_1).f4, (rd_T30 l0 x8_1).f5⟩ : S33)]) := ⟨_, rfl⟩
              replace H : (laws_drawEvents.l0 k1 y187 l0 (l0.length : Int) (wrap64 (x8_1 + 1))) = some r := by first | (rw [hy187]; with_reducible exact H) | (have H2_ := (Option.bind_some _ _).symm.trans H; rw [hy187]; with_reducible exact H2_) | (have H2_ := (Option.bind_some _ _).symm.trans H; with_reducible exact H2_) | with_reducible exact H | (rw [hy187]; exact H) | exact H
              have Ny187 := Aside0.mk hy187
              clear hy187
              have H' := Aside0.mk H
              clear H
              have p185 : 0 ≤ (x8_1 : Int) := of_decide_eq_true (by first | (with_reducible assumption) | assumption)
              have q185 : x8_1 < (l0.length : Int) := of_decide_eq_true (by first | (with_reducible assumption) | assumption)
              obtain ⟨ad185, A185_4, c185_4, A185_5, c185_5, e185, hx185_0, hx185_1, hx185_2, hx185_3, hx185_4, hx185_5, hl185_4, hi185_4, hl185_5, hi185_5⟩ := at_T30 (Kd.V_reads' HO_6.out).2.2 x8_1 p185 q185
              cases e185
              obtain ⟨ce185, hce185, hMe185, hcc185⟩ := Kd.V_get HO_6.out z30 x8_1 p185 (by first | exact q185 | exact of_decide_eq_true (by first | (with_reducible assumption) | assumption) | (have e_ := (Kd.V_reads' HO_6.out).1; omega))
              obtain ⟨ua185_4, uc185_4, ua185_5, uc185_5, rfl, ul185_4, ge185_4, ul185_5, ge185_5⟩ := k30_openF hMe185
              have hv185_4 := hcc185 4 _ rfl
              rw [add_field _ _ 4 (by omega)] at hv185_4
              replace hv185_4 := Option.some.inj (hv185_4.symm.trans hx185_4)
              injection hv185_4 with hva_ hvn_ hvc_
              rw [hva_] at ge185_4
              rw [hvc_] at ul185_4
              have HL185_4 := Aside0.mk (show Kd.V (Kd.int .i64) 2 _ w.heap.size _ _ ((rd_T30 l0 x8_1).f4) from Kd.V_mk ul185_4 ge185_4)
              clear hva_ hvn_ hvc_ ge185_4 ul185_4
              have hv185_5 := hcc185 5 _ rfl
              rw [add_field _ _ 5 (by omega)] at hv185_5
              replace hv185_5 := Option.some.inj (hv185_5.symm.trans hx185_5)
              injection hv185_5 with hva_ hvn_ hvc_
              rw [hva_] at ge185_5
              rw [hvc_] at ul185_5
              have HL185_5 := Aside0.mk (show Kd.V (Kd.int .u8) 5 _ w.heap.size _ _ ((rd_T30 l0 x8_1).f5) from Kd.V_mk ul185_5 ge185_5)
              clear hva_ hvn_ hvc_ ge185_5 ul185_5
              clear hcc185 hce185
              have HR185_4 := Aside0.mk hi185_4
              have HC185_4 := Aside0.mk hl185_4
              clear hi185_4 hl185_4
              have HR185_5 := Aside0.mk hi185_5
              have HC185_5 := Aside0.mk hl185_5
              clear hi185_5 hl185_5
              replace p185 := eq_true p185
              replace q185 := eq_true q185
              go_wp2_with (first | ((with_reducible refine gate_dst (N := 5) rfl ?_); refine box_event ?hg (N := 5) ?hd (cs := #[.int .i64 0, .int .i64 0, .int .u8 0, .int .i64 0, .slice none 0 0, .slice none 0 0]) (t := 30) ?hr ?_; (case hd => rfl); (case hg => rfl); (case hr => first | (go_simp; done) | (go_simp; rfl)); intro gb186 hg w6 hbox hb; have n0_ := Aside0.mk (Kd.N_below (Kd.N_elderB (by (with_reducible repeat (first | apply Kd.N_alloc | apply Kd.N_drewN | apply Kd.N_drew)); exact HO_3.out) gb186 (Nat.le_of_eq hg.symm)) hb); have n1_ := Aside0.mk (Kd.V_below (Kd.V_elderB (by (with_reducible repeat (first | apply Kd.V_alloc | apply Kd.V_drewN | apply Kd.V_drew)); exact HO_6.out) gb186 (Nat.le_of_eq hg.symm)) hb); have n2_ := Aside0.mk (Kd.V_below (Kd.V_elderB (by (with_reducible repeat (first | apply Kd.V_alloc | apply Kd.V_drewN | apply Kd.V_drew)); exact HL185_4.out) gb186 (Nat.le_of_eq hg.symm)) hb); have n3_ := Aside0.mk (Kd.V_below (Kd.V_elderB (by (with_reducible repeat (first | apply Kd.V_alloc | apply Kd.V_drewN | apply Kd.V_drew)); exact HL185_5.out) gb186 (Nat.le_of_eq hg.symm)) hb); have n4_ := Aside0.mk (Kd.C_below (by repeat (first | (with_reducible exact HR185_4.out) | (with_reducible refine Kd.C_alloc ?_ _) | (with_reducible refine Kd.C_drewN ?_ _) | (with_reducible refine Kd.C_drew ?_) | exact HR185_4.out)) hb); have n5_ := Aside0.mk (Kd.C_below (by repeat (first | (with_reducible exact HR185_5.out) | (with_reducible refine Kd.C_alloc ?_ _) | (with_reducible refine Kd.C_drewN ?_ _) | (with_reducible refine Kd.C_drew ?_) | exact HR185_5.out)) hb); have n6_ := Aside0.mk (below_step (by repeat (first | (with_reducible first | exact HB.out | apply below_alloc | apply pw_below_drewN | apply below_drew1) | exact HB.out)) hb); have n7_ := Aside0.mk (hbox); have n8_ := Aside0.mk ((by rw [hg]; exact (below_size (by repeat (first | (with_reducible first | exact HB.out | apply below_alloc | apply pw_below_drewN | apply below_drew1) | exact HB.out))) : w.heap.size ≤ gb186)); have n9_ := Aside0.mk ((by rw [hg]; exact (below_size (by repeat (first | (with_reducible first | exact HB.out | apply below_alloc | apply pw_below_drewN | apply below_drew1) | exact HB.out))) : w.heap.size ≤ gb186)); clear HO_3; clear HO_6; clear HL185_4; clear HL185_5; clear HR185_4; clear HR185_5; clear HB; have HO_3 := n0_; have HO_6 := n1_; have HL185_4 := n2_; have HL185_5 := n3_; have HR185_4 := n4_; have HR185_5 := n5_; have HB := n6_; have BK186 := n7_; have GW186 := n8_; have GE186 := n9_; clear n0_ n1_ n2_ n3_ n4_ n5_ n6_ n7_ n8_ n9_; clear hb hbox hg; have hcz7_0 : w6.cell? ⟨gb186, 0, none⟩ = some (.int .i64 0) := (blk_cell BK186.out 0).trans rfl; have hcz7_1 : w6.cell? ⟨gb186, 1, none⟩ = some (.int .i64 0) := (blk_cell BK186.out 1).trans rfl; have hcz7_2 : w6.cell? ⟨gb186, 2, none⟩ = some (.int .u8 0) := (blk_cell BK186.out 2).trans rfl; have hcz7_3 : w6.cell? ⟨gb186, 3, none⟩ = some (.int .i64 0) := (blk_cell BK186.out 3).trans rfl; have hcz7_4 : w6.cell? ⟨gb186, 4, none⟩ = some (.slice none 0 0) := (blk_cell BK186.out 4).trans rfl; have hcz7_5 : w6.cell? ⟨gb186, 5, none⟩ = some (.slice none 0 0) := (blk_cell BK186.out 5).trans rfl; have hfz7_0 := blk_frozen BK186.out 0; have hfz7_1 := blk_frozen BK186.out 1; have hfz7_2 := blk_frozen BK186.out 2; have hfz7_3 := blk_frozen BK186.out 3; have hfz7_4 := blk_frozen BK186.out 4; have hfz7_5 := blk_frozen BK186.out 5) | ((with_reducible refine gate_store (t := 30) (p := 5) rfl ?_); refine store_event (t := 30) (p := 5) (v := ?vo_w8) (w1 := ((((((w6.setCell ⟨gb186, 0, none⟩ (.int .i64 ((rd_T30 l0 x8_1).f0))).setCell ⟨gb186, 1, none⟩ (.int .i64 ((rd_T30 l0 x8_1).f1))).setCell ⟨gb186, 2, none⟩ (.int .u8 ((rd_T30 l0 x8_1).f2))).setCell ⟨gb186, 3, none⟩ (.int .i64 ((rd_T30 l0 x8_1).f3))).setCell ⟨gb186, 4, none⟩ (.slice A185_4 ((rd_T30 l0 x8_1).f4).length c185_4)).setCell ⟨gb186, 5, none⟩ (.slice A185_5 ((rd_T30 l0 x8_1).f5).length c185_5))) ?hg ?ho ?hn ?hr ?_; (case ho => rfl); (case hg => rfl); (case hn => rfl); (case hr => first | (go_simp; done) | (go_simp; rfl)); intro w8 hw; have n0_ : Aside0 (Kd.N k33 33 w8 w.heap.size (fun k_ => (P0_ k_ ∨ w.heap.size ≤ k_) ∧ k_ ≠ gb186) u3 x3_1) := ⟨(by rw [hw]; exact (by (with_reducible repeat (first | apply Kd.N_alloc | apply Kd.N_drewN | apply Kd.N_drew)); exact Kd.N_mono (Kd.N_far (p := ⟨gb186, 5, none⟩) (Kd.N_far (p := ⟨gb186, 4, none⟩) (Kd.N_far (p := ⟨gb186, 3, none⟩) (Kd.N_far (p := ⟨gb186, 2, none⟩) (Kd.N_far (p := ⟨gb186, 1, none⟩) (Kd.N_far (p := ⟨gb186, 0, none⟩) (Kd.N_mono HO_3.out (fun k_ hk => (⟨hk, hk.2⟩ : _ ∧ k_ ≠ gb186))) (fun _ hk => hk.2) (.int .i64 ((rd_T30 l0 x8_1).f0))) (fun _ hk => hk.2) (.int .i64 ((rd_T30 l0 x8_1).f1))) (fun _ hk => hk.2) (.int .u8 ((rd_T30 l0 x8_1).f2))) (fun _ hk => hk.2) (.int .i64 ((rd_T30 l0 x8_1).f3))) (fun _ hk => hk.2) (.slice A185_4 ((rd_T30 l0 x8_1).f4).length c185_4)) (fun _ hk => hk.2) (.slice A185_5 ((rd_T30 l0 x8_1).f5).length c185_5)) (fun _ hk => ⟨hk.1.1, hk.1.2⟩)))⟩; have n1_ : Aside0 (Kd.V k30 30 w8 w.heap.size (fun k_ => (P0_ k_ ∨ w.heap.size ≤ k_) ∧ some k_ ≠ (u3 : Value).ownBlock ∧ k_ ≠ gb186) (.slice (some ad185) l0.length c0) l0) := ⟨(by rw [hw]; exact (by (with_reducible repeat (first | apply Kd.V_alloc | apply Kd.V_drewN | apply Kd.V_drew)); exact Kd.V_mono (Kd.V_far (p := ⟨gb186, 5, none⟩) (Kd.V_far (p := ⟨gb186, 4, none⟩) (Kd.V_far (p := ⟨gb186, 3, none⟩) (Kd.V_far (p := ⟨gb186, 2, none⟩) (Kd.V_far (p := ⟨gb186, 1, none⟩) (Kd.V_far (p := ⟨gb186, 0, none⟩) (Kd.V_mono HO_6.out (fun k_ hk => (⟨hk, hk.2⟩ : _ ∧ k_ ≠ gb186))) (fun _ hk => hk.2) (.int .i64 ((rd_T30 l0 x8_1).f0))) (fun _ hk => hk.2) (.int .i64 ((rd_T30 l0 x8_1).f1))) (fun _ hk => hk.2) (.int .u8 ((rd_T30 l0 x8_1).f2))) (fun _ hk => hk.2) (.int .i64 ((rd_T30 l0 x8_1).f3))) (fun _ hk => hk.2) (.slice A185_4 ((rd_T30 l0 x8_1).f4).length c185_4)) (fun _ hk => hk.2) (.slice A185_5 ((rd_T30 l0 x8_1).f5).length c185_5)) (fun _ hk => ⟨hk.1.1.1, ⟨hk.1.1.2, hk.1.2⟩⟩)))⟩; have n2_ : Aside0 (Kd.V (Kd.int .i64) 2 w8 w.heap.size (fun k_ => (P0_ k_ ∨ w.heap.size ≤ k_) ∧ some k_ ≠ (u3 : Value).ownBlock ∧ k_ ≠ gb186) (.slice A185_4 ((rd_T30 l0 x8_1).f4).length c185_4) ((rd_T30 l0 x8_1).f4)) := ⟨(by rw [hw]; exact (by (with_reducible repeat (first | apply Kd.V_alloc | apply Kd.V_drewN | apply Kd.V_drew)); exact Kd.V_mono (Kd.V_far (p := ⟨gb186, 5, none⟩) (Kd.V_far (p := ⟨gb186, 4, none⟩) (Kd.V_far (p := ⟨gb186, 3, none⟩) (Kd.V_far (p := ⟨gb186, 2, none⟩) (Kd.V_far (p := ⟨gb186, 1, none⟩) (Kd.V_far (p := ⟨gb186, 0, none⟩) (Kd.V_mono HL185_4.out (fun k_ hk => (⟨hk, hk.2⟩ : _ ∧ k_ ≠ gb186))) (fun _ hk => hk.2) (.int .i64 ((rd_T30 l0 x8_1).f0))) (fun _ hk => hk.2) (.int .i64 ((rd_T30 l0 x8_1).f1))) (fun _ hk => hk.2) (.int .u8 ((rd_T30 l0 x8_1).f2))) (fun _ hk => hk.2) (.int .i64 ((rd_T30 l0 x8_1).f3))) (fun _ hk => hk.2) (.slice A185_4 ((rd_T30 l0 x8_1).f4).length c185_4)) (fun _ hk => hk.2) (.slice A185_5 ((rd_T30 l0 x8_1).f5).length c185_5)) (fun _ hk => ⟨hk.1.1.1, ⟨hk.1.1.2, hk.1.2⟩⟩)))⟩; have n3_ : Aside0 (Kd.V (Kd.int .u8) 5 w8 w.heap.size (fun k_ => (P0_ k_ ∨ w.heap.size ≤ k_) ∧ some k_ ≠ (u3 : Value).ownBlock ∧ k_ ≠ gb186) (.slice A185_5 ((rd_T30 l0 x8_1).f5).length c185_5) ((rd_T30 l0 x8_1).f5)) := ⟨(by rw [hw]; exact (by (with_reducible repeat (first | apply Kd.V_alloc | apply Kd.V_drewN | apply Kd.V_drew)); exact Kd.V_mono (Kd.V_far (p := ⟨gb186, 5, none⟩) (Kd.V_far (p := ⟨gb186, 4, none⟩) (Kd.V_far (p := ⟨gb186, 3, none⟩) (Kd.V_far (p := ⟨gb186, 2, none⟩) (Kd.V_far (p := ⟨gb186, 1, none⟩) (Kd.V_far (p := ⟨gb186, 0, none⟩) (Kd.V_mono HL185_5.out (fun k_ hk => (⟨hk, hk.2⟩ : _ ∧ k_ ≠ gb186))) (fun _ hk => hk.2) (.int .i64 ((rd_T30 l0 x8_1).f0))) (fun _ hk => hk.2) (.int .i64 ((rd_T30 l0 x8_1).f1))) (fun _ hk => hk.2) (.int .u8 ((rd_T30 l0 x8_1).f2))) (fun _ hk => hk.2) (.int .i64 ((rd_T30 l0 x8_1).f3))) (fun _ hk => hk.2) (.slice A185_4 ((rd_T30 l0 x8_1).f4).length c185_4)) (fun _ hk => hk.2) (.slice A185_5 ((rd_T30 l0 x8_1).f5).length c185_5)) (fun _ hk => ⟨hk.1.1.1, ⟨hk.1.1.2, hk.1.2⟩⟩)))⟩; have n4_ : Aside0 (w8.heap[gb186]? = some (.cells #[.int .i64 ((rd_T30 l0 x8_1).f0), .int .i64 ((rd_T30 l0 x8_1).f1), .int .u8 ((rd_T30 l0 x8_1).f2), .int .i64 ((rd_T30 l0 x8_1).f3), .slice A185_4 ((rd_T30 l0 x8_1).f4).length c185_4, .slice A185_5 ((rd_T30 l0 x8_1).f5).length c185_5] 30 (0, 0))) := ⟨(by rw [hw]; exact (by (with_reducible repeat (first | refine blk_drewN ?_ _ | refine blk_drew ?_ | refine blk_alloc ?_ _)); refine blk_put (cs := #[.int .i64 ((rd_T30 l0 x8_1).f0), .int .i64 ((rd_T30 l0 x8_1).f1), .int .u8 ((rd_T30 l0 x8_1).f2), .int .i64 ((rd_T30 l0 x8_1).f3), .slice A185_4 ((rd_T30 l0 x8_1).f4).length c185_4, .slice none 0 0]) ?_ 5 _ rfl; (with_reducible repeat (first | refine blk_drewN ?_ _ | refine blk_drew ?_ | refine blk_alloc ?_ _)); refine blk_put (cs := #[.int .i64 ((rd_T30 l0 x8_1).f0), .int .i64 ((rd_T30 l0 x8_1).f1), .int .u8 ((rd_T30 l0 x8_1).f2), .int .i64 ((rd_T30 l0 x8_1).f3), .slice none 0 0, .slice none 0 0]) ?_ 4 _ rfl; (with_reducible repeat (first | refine blk_drewN ?_ _ | refine blk_drew ?_ | refine blk_alloc ?_ _)); refine blk_put (cs := #[.int .i64 ((rd_T30 l0 x8_1).f0), .int .i64 ((rd_T30 l0 x8_1).f1), .int .u8 ((rd_T30 l0 x8_1).f2), .int .i64 0, .slice none 0 0, .slice none 0 0]) ?_ 3 _ rfl; (with_reducible repeat (first | refine blk_drewN ?_ _ | refine blk_drew ?_ | refine blk_alloc ?_ _)); refine blk_put (cs := #[.int .i64 ((rd_T30 l0 x8_1).f0), .int .i64 ((rd_T30 l0 x8_1).f1), .int .u8 0, .int .i64 0, .slice none 0 0, .slice none 0 0]) ?_ 2 _ rfl; (with_reducible repeat (first | refine blk_drewN ?_ _ | refine blk_drew ?_ | refine blk_alloc ?_ _)); refine blk_put (cs := #[.int .i64 ((rd_T30 l0 x8_1).f0), .int .i64 0, .int .u8 0, .int .i64 0, .slice none 0 0, .slice none 0 0]) ?_ 1 _ rfl; (with_reducible repeat (first | refine blk_drewN ?_ _ | refine blk_drew ?_ | refine blk_alloc ?_ _)); refine blk_put (cs := #[.int .i64 0, .int .i64 0, .int .u8 0, .int .i64 0, .slice none 0 0, .slice none 0 0]) ?_ 0 _ rfl; (with_reducible repeat (first | refine blk_drewN ?_ _ | refine blk_drew ?_ | refine blk_alloc ?_ _)); exact BK186.out))⟩; have n5_ : Aside0 (Below w.heap.size w w8) := ⟨(by rw [hw]; exact (by repeat (first | (with_reducible first | exact HB.out | apply below_alloc | apply pw_below_drewN | apply below_drew1 | refine below_set ?_ GE186.out) | exact HB.out)))⟩; clear hw; clear HO_3; clear HO_6; clear HL185_4; clear HL185_5; clear BK186; clear HB; have HO_3 := n0_; have HO_6 := n1_; have HL185_4 := n2_; have HL185_5 := n3_; have BK186 := n4_; have HB := n5_; clear n0_ n1_ n2_ n3_ n4_ n5_; have hcz9_0 : w8.cell? ⟨gb186, 0, none⟩ = some (.int .i64 ((rd_T30 l0 x8_1).f0)) := (blk_cell BK186.out 0).trans rfl; have hcz9_1 : w8.cell? ⟨gb186, 1, none⟩ = some (.int .i64 ((rd_T30 l0 x8_1).f1)) := (blk_cell BK186.out 1).trans rfl; have hcz9_2 : w8.cell? ⟨gb186, 2, none⟩ = some (.int .u8 ((rd_T30 l0 x8_1).f2)) := (blk_cell BK186.out 2).trans rfl; have hcz9_3 : w8.cell? ⟨gb186, 3, none⟩ = some (.int .i64 ((rd_T30 l0 x8_1).f3)) := (blk_cell BK186.out 3).trans rfl; have hcz9_4 : w8.cell? ⟨gb186, 4, none⟩ = some (.slice A185_4 ((rd_T30 l0 x8_1).f4).length c185_4) := (blk_cell BK186.out 4).trans rfl; have hcz9_5 : w8.cell? ⟨gb186, 5, none⟩ = some (.slice A185_5 ((rd_T30 l0 x8_1).f5).length c185_5) := (blk_cell BK186.out 5).trans rfl; have hfz9_0 := blk_frozen BK186.out 0; have hfz9_1 := blk_frozen BK186.out 1; have hfz9_2 := blk_frozen BK186.out 2; have hfz9_3 := blk_frozen BK186.out 3; have hfz9_4 := blk_frozen BK186.out 4; have hfz9_5 := blk_frozen BK186.out 5) | ((with_reducible refine gate_builtin (b := .append) (xs := #[.tmp 12, .tmp 14]) rfl ?_); at_builtin; refine Kd.N_append k33 (w0 := w) w.heap.size rfl (.tmp 12) (.tmp 14) 34 33 (.agg #[(.int .i64 0), (.int .i64 0), (.int .u8 0), (.int .i64 0), (.slice none 0 0), (.slice none 0 0)]) 80 rfl Tryd.underlying34 info33 rfl (by decide) (by omega) u3 x3_1 (⟨(rd_T30 l0 x8_1).f0, (rd_T30 l0 x8_1).f1, (rd_T30 l0 x8_1).f2, (rd_T30 l0 x8_1).f3, (rd_T30 l0 x8_1).f4, (rd_T30 l0 x8_1).f5⟩ : S33) [.int .i64 ((rd_T30 l0 x8_1).f0), .int .i64 ((rd_T30 l0 x8_1).f1), .int .u8 ((rd_T30 l0 x8_1).f2), .int .i64 ((rd_T30 l0 x8_1).f3), .slice A185_4 ((rd_T30 l0 x8_1).f4).length c185_4, .slice A185_5 ((rd_T30 l0 x8_1).f5).length c185_5] (fun k_ => (P0_ k_ ∨ w.heap.size ≤ k_) ∧ k_ ≠ gb186) (fun k_ => ((fun k_ => (P0_ k_ ∨ w.heap.size ≤ k_) ∧ k_ ≠ gb186)) k_ ∧ some k_ ≠ (u3 : Value).ownBlock) rfl rfl ?aP (fun _ hk => hk) ?aF ?aO ?aB ?aS ?aL ?_; (case aP => exact (k33_mkF _ _ (⟨(rd_T30 l0 x8_1).f0, (rd_T30 l0 x8_1).f1, (rd_T30 l0 x8_1).f2, (rd_T30 l0 x8_1).f3, (rd_T30 l0 x8_1).f4, (rd_T30 l0 x8_1).f5⟩ : S33) (Kd.V_reads' (Kd.V_mono (ok' := (fun k_ => ((fun k_ => (P0_ k_ ∨ w.heap.size ≤ k_) ∧ k_ ≠ gb186)) k_ ∧ some k_ ≠ (u3 : Value).ownBlock)) (HL185_4.out) (fun k_ hk => ⟨⟨hk.1, hk.2.2⟩, hk.2.1⟩))).2.1 (Kd.V_F (Kd.V_mono (ok' := (fun k_ => ((fun k_ => (P0_ k_ ∨ w.heap.size ≤ k_) ∧ k_ ≠ gb186)) k_ ∧ some k_ ≠ (u3 : Value).ownBlock)) (HL185_4.out) (fun k_ hk => ⟨⟨hk.1, hk.2.2⟩, hk.2.1⟩))) (Kd.V_reads' (Kd.V_mono (ok' := (fun k_ => ((fun k_ => (P0_ k_ ∨ w.heap.size ≤ k_) ∧ k_ ≠ gb186)) k_ ∧ some k_ ≠ (u3 : Value).ownBlock)) (HL185_5.out) (fun k_ hk => ⟨⟨hk.1, hk.2.2⟩, hk.2.1⟩))).2.1 (Kd.V_F (Kd.V_mono (ok' := (fun k_ => ((fun k_ => (P0_ k_ ∨ w.heap.size ≤ k_) ∧ k_ ≠ gb186)) k_ ∧ some k_ ≠ (u3 : Value).ownBlock)) (HL185_5.out) (fun k_ hk => ⟨⟨hk.1, hk.2.2⟩, hk.2.1⟩))))); (case aB => exact (by repeat (first | (with_reducible first | exact HB.out | apply below_alloc | apply pw_below_drewN | apply below_drew1 | refine below_set ?_ GE186.out) | exact HB.out))); (case aF => exact (fun k_ hk => ⟨(.inr (Nat.le_trans (below_size (by repeat (first | (with_reducible first | exact HB.out | apply below_alloc | apply pw_below_drewN | apply below_drew1 | refine below_set ?_ GE186.out) | exact HB.out))) hk)), Kd.freshB (g := gb186) (o := .cells #[.int .i64 ((rd_T30 l0 x8_1).f0), .int .i64 ((rd_T30 l0 x8_1).f1), .int .u8 ((rd_T30 l0 x8_1).f2), .int .i64 ((rd_T30 l0 x8_1).f3), .slice A185_4 ((rd_T30 l0 x8_1).f4).length c185_4, .slice A185_5 ((rd_T30 l0 x8_1).f5).length c185_5] 30 (0, 0)) (by (with_reducible repeat (first | refine blk_drewN ?_ _ | refine blk_drew ?_ | refine blk_alloc ?_ _)); exact BK186.out) k_ hk⟩)); (case aO => exact (by (with_reducible repeat (first | apply Kd.N_alloc | apply Kd.N_drewN | apply Kd.N_drew)); exact HO_3.out)); (case aS => exact (below_size (by repeat (first | (with_reducible first | exact HB.out | apply below_alloc | apply pw_below_drewN | apply below_drew1 | refine below_set ?_ GE186.out) | exact HB.out)))); (case aL => have := LMc5.out; omega); intro v188 w10 ho hb hg hat; rw [← Ny187.out] at ho; have n0_ := Aside0.mk (Kd.V_afterv (ok := (fun k_ => (P0_ k_ ∨ w.heap.size ≤ k_) ∧ k_ ≠ gb186)) (by (with_reducible repeat (first | apply Kd.V_alloc | apply Kd.V_drewN | apply Kd.V_drew)); exact Kd.V_mono HO_6.out (fun _ hk => ⟨⟨hk.1, hk.2.2⟩, hk.2.1⟩)) hg hat); have n1_ := Aside0.mk (Kd.V_afterv (ok := (fun k_ => (P0_ k_ ∨ w.heap.size ≤ k_) ∧ k_ ≠ gb186)) (by (with_reducible repeat (first | apply Kd.V_alloc | apply Kd.V_drewN | apply Kd.V_drew)); exact Kd.V_mono HL185_4.out (fun _ hk => ⟨⟨hk.1, hk.2.2⟩, hk.2.1⟩)) hg hat); have n2_ := Aside0.mk (Kd.V_afterv (ok := (fun k_ => (P0_ k_ ∨ w.heap.size ≤ k_) ∧ k_ ≠ gb186)) (by (with_reducible repeat (first | apply Kd.V_alloc | apply Kd.V_drewN | apply Kd.V_drew)); exact Kd.V_mono HL185_5.out (fun _ hk => ⟨⟨hk.1, hk.2.2⟩, hk.2.1⟩)) hg hat); have n3_ := Aside0.mk (blk_grown (g := gb186) (o := .cells #[.int .i64 ((rd_T30 l0 x8_1).f0), .int .i64 ((rd_T30 l0 x8_1).f1), .int .u8 ((rd_T30 l0 x8_1).f2), .int .i64 ((rd_T30 l0 x8_1).f3), .slice A185_4 ((rd_T30 l0 x8_1).f4).length c185_4, .slice A185_5 ((rd_T30 l0 x8_1).f5).length c185_5] 30 (0, 0)) (by (with_reducible repeat (first | refine blk_drewN ?_ _ | refine blk_drew ?_ | refine blk_alloc ?_ _)); exact BK186.out) hg (Kd.N_ne HO_3.out BK186.out (by decide))); have n4_ := Aside0.mk (hb); have n5_ := Aside0.mk (ho); clear HO_6; clear HL185_4; clear HL185_5; clear BK186; clear HB; clear HO_3; have HO_6 := n0_; have HL185_4 := n1_; have HL185_5 := n2_; have BK186 := n3_; have HB := n4_; have HO189 := n5_; clear n0_ n1_ n2_ n3_ n4_ n5_; clear ho hb hg hat))
              go_roundg k1
              case measure => have := HK1.out; omega
              case rel => exact ⟨(y187), (wrap64 (x8_1 + 1)), (by first | rfl | (simp; done) | (simp [*]; done)), H', ⟨by have := HK1.out; omega⟩, ⟨by (with_reducible repeat (first | apply Kd.N_alloc | apply Kd.N_drewN | apply Kd.N_drew)); exact Kd.N_mono HO189.out (fun _ hk => hk.1)⟩, ⟨by (with_reducible repeat (first | apply Kd.V_alloc | apply Kd.V_drewN | apply Kd.V_drew)); exact Kd.V_mono HO_6.out (fun _ hk => ⟨hk.1.1, hk.2⟩)⟩, ⟨by repeat (first | (with_reducible first | exact HB.out | apply below_alloc | apply pw_below_drewN | apply below_drew1 | refine below_set ?_ GE186.out) | exact HB.out)⟩⟩
            · rw [if_neg c5] at H
              exact absurd H (by simp)
          · rw [if_neg c4] at H
            exact absurd H (by simp)
        · rw [if_neg c3] at H
          exact absurd H (by simp)
      · rw [if_neg c2] at H
        have c2b0 : decide (x8_1 < (l0.length : Int)) = false := decide_eq_false c2
        clear c2
        obtain rfl := Option.some.inj H
        go_wp2
        go_ret
        exact ⟨_, by first | rfl | (simp [errW_none, errW_some] <;> rfl) | (simp [*, errW_none, errW_some] <;> rfl), by (with_reducible repeat (first | apply Kd.N_alloc | apply Kd.N_drewN | apply Kd.N_drew)); exact HO_3.out, by repeat (first | (with_reducible first | exact HB.out | apply below_alloc | apply pw_below_drewN | apply below_drew1) | exact HB.out)⟩
end Go.Proofs.YtjkjnhcnmjknmaaDoor.Y
end
