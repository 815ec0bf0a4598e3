/- Texts of this claim, joined: Y46. Of each, what the claim uses. -/
import Derived.Test.YtkklhlakklcnbaaGreatDoorRRRKac
import Derived.Test.YtkklhlakklcnbaaGreatDoorRRRKax
import Derived.Test.YtkklhlakklcnbaaGreatDoorRRRKat
section
namespace Go.Proofs.YtkklhlakklcnbaaGreatDoorRRR.Y
open Go.RowKit Go.Proofs.YtkklhlakklcnbaaGreatDoorRRRW.PrintWords Go.Proofs.YtkklhlakklcnbaaGreatDoorRRRW.PrintLast Go.Proofs.YtkklhlakklcnbaaGreatDoorRRRW.PrintMore
attribute [local go_sem] max2_int min2_int max_two min_two max_three min_three max_four min_four   -- for this text's walks alone
set_option linter.unusedVariables false
set_option linter.unusedSimpArgs false
set_option maxHeartbeats 8000000 in
set_option maxRecDepth 100000 in
theorem spec_DrawTold.calls (k : Nat) (A0 : Option Addr) (c0 : Nat) (l0 : List (S76)) (A1 : Option Addr) (c1 : Nat) (l1 : List Int) (r : List ByteArray) (w : World) (hr0 : Kd.C k76 w A0 l0.length l0) (hc0 : l0.length ≤ c0) (hr1 : Kd.C (Kd.int .i64) w A1 l1.length l1) (hc1 : l1.length ≤ c1) (h : spec_DrawTold.f k l0 l1 = some r) :
    Calls Tryz.prog 35 #[.slice A0 l0.length c0, .slice A1 l1.length c1] w fun e w' => ∃ v0_ : Value, e = .returned (v0_) ∧ Kd.R Kd.string 9 w' w.heap.size (fun _ => True) v0_ r ∧ Below w.heap.size w w' := by
  have hu76 := Tryz.underlying76
  have HR0 := Aside0.mk hr0
  have HC0 := Aside0.mk hc0
  clear hr0 hc0
  have HR1 := Aside0.mk hr1
  have HC1 := Aside0.mk hc1
  clear hr1 hc1
  have HB := Aside0.mk (Below.refl w.heap.size w)
  have H : (if 0 ≤ (l1.length : Int) then (if ((l1.length : Int) : Int).toNat ≤ 17592186044416 then (spec_DrawTold.l0 k l1 (List.replicate ((l1.length : Int) : Int).toNat (⟨#[]⟩ : ByteArray)) l0 (l0.length : Int) 0) else (none)) else (none)) = some r := h
  clear h
  by_cases c3 : 0 ≤ (l1.length : Int)
  · rw [if_pos c3] at H
    have c3b0 := eq_true c3
    have c3b1 : decide (0 ≤ (l1.length : Int)) = true := decide_eq_true c3
    clear c3
    by_cases c4 : ((l1.length : Int) : Int).toNat ≤ 17592186044416
    · rw [if_pos c4] at H
      have c4b0 := eq_true c4
      have c4b1 : decide (((l1.length : Int) : Int).toNat ≤ 17592186044416) = true := decide_eq_true c4
      clear c4
      obtain ⟨y221, hy221⟩ : ∃ y_ : List ByteArray, y_ = (List.replicate ((l1.length : Int) : Int).toNat (⟨#[]⟩ : ByteArray)) := ⟨_, rfl⟩
      replace H : (spec_DrawTold.l0 k l1 y221 l0 (l0.length : Int) 0) = some r := by first | (rw [hy221]; with_reducible exact H) | (have H2_ := (Option.bind_some _ _).symm.trans H; rw [hy221]; with_reducible exact H2_) | (have H2_ := (Option.bind_some _ _).symm.trans H; with_reducible exact H2_) | with_reducible exact H | (rw [hy221]; exact H) | exact H
      have Ny221 := Aside0.mk hy221
      clear hy221
      have H' := Aside0.mk H
      clear H
      go_enter Tryz.func35, Tryz.ntmps35
      go_wp2_with (first | ((with_reducible refine gate_dst (N := 12) rfl ?_); refine Kd.R_make Kd.string _ 9 rfl (N := 12) rfl 24 _ _ rfl (l1.length : Int) rfl rfl Tryz.underlying24 (.string ⟨#[]⟩) 16 info9 rfl (by decide) (by omega) (⟨#[]⟩ : ByteArray) (ok := fun _ => True) (okp := fun _ => True) rfl (fun _ hk => hk) trivial (of_decide_eq_true (by first | (with_reducible assumption) | assumption)) (Nat.le_trans (Nat.mul_le_mul_right _ (of_decide_eq_true (by first | (with_reducible assumption) | assumption) : (l1.length : Int).toNat ≤ 17592186044416)) (by omega)) (Below.refl _ _) (Nat.le_refl _) ?_; intro v222 w5 ho6 hb hg_ hnew_; clear hg_ hnew_; (first | rw [← Ny221.out] at ho6 | (simp only [Int.reduceToNat] at ho6; rw [← Ny221.out] at ho6)); have n0_ := Aside0.mk (Kd.R_lower ho6 (below_size (by repeat (first | (with_reducible first | exact HB.out | apply below_alloc | apply pw_below_drewN | apply below_drew1) | exact HB.out)))); have n1_ := Aside0.mk (below_step (by repeat (first | (with_reducible first | exact HB.out | apply below_alloc | apply pw_below_drewN | apply below_drew1) | exact HB.out)) hb); clear HB; have HO223 := n0_; have HB := n1_; clear n0_ n1_; clear hb ho6))
      go_loopg [15] k (fun kq v15 w' => ∃ (x5_1 : List ByteArray) (x15_1 : Int), v15 = .int .i64 x15_1 ∧ Aside0 (spec_DrawTold.l0 kq l1 x5_1 l0 (l0.length : Int) x15_1 = some r) ∧ Aside0 (kq ≤ k) ∧ Aside0 (Kd.R Kd.string 9 w' w.heap.size (fun _ => True) v222 x5_1) ∧ Aside0 (Below w.heap.size w w'))
      case atStart => exact ⟨(y221), (0), (by first | rfl | (simp; done) | (simp [*]; done)), H', ⟨Nat.le_refl _⟩, ⟨by (with_reducible repeat (first | apply Kd.R_alloc | apply Kd.R_drewN | apply Kd.R_drew)); exact HO223.out⟩, ⟨by repeat (first | (with_reducible first | exact HB.out | apply below_alloc | apply pw_below_drewN | apply below_drew1) | exact HB.out)⟩⟩
      case round =>
        clear H'
        try clear c1
        try clear p2
        try clear c3
        try clear c3b0
        try clear c3b1
        try clear c4
        try clear c4b0
        try clear c4b1
        obtain ⟨x5_1, x15_1, rfl, HA, HK1, HO_5, HB⟩ := hrel
        cases gk with
        | zero => exact absurd HA.out (by simp [spec_DrawTold.l0])
        | succ k1 =>
          have H := HA.out
          clear HA
          simp only [spec_DrawTold.l0] at H
          by_cases c7 : x15_1 < (l0.length : Int)
          · rw [if_pos c7] at H
            have c7b0 : decide (x15_1 < (l0.length : Int)) = true := decide_eq_true c7
            clear c7
            by_cases c8 : 0 ≤ x15_1
            · rw [if_pos c8] at H
              have c8b0 : decide (0 ≤ x15_1) = true := decide_eq_true c8
              clear c8
              by_cases c9 : x15_1 < (l0.length : Int)
              · rw [if_pos c9] at H
                have c9b0 : decide (x15_1 < (l0.length : Int)) = true := decide_eq_true c9
                clear c9
                have H' := Aside0.mk H
                clear H
                have p224 : 0 ≤ (x15_1 : Int) := of_decide_eq_true (by first | (with_reducible assumption) | assumption)
                have q224 : x15_1 < (l0.length : Int) := of_decide_eq_true (by first | (with_reducible assumption) | assumption)
                obtain ⟨ad224, A224_4, c224_4, A224_5, c224_5, e224, hx224_0, hx224_1, hx224_2, hx224_3, hx224_4, hx224_5, hl224_4, hi224_4, hl224_5, hi224_5⟩ := at_T76 HR0.out x15_1 p224 q224
                cases e224
                replace hx224_0 := (HB.out.cell (World.block_lt_of_cell? w _ hx224_0)).trans hx224_0
                replace hx224_1 := (HB.out.cell (World.block_lt_of_cell? w _ hx224_1)).trans hx224_1
                replace hx224_2 := (HB.out.cell (World.block_lt_of_cell? w _ hx224_2)).trans hx224_2
                replace hx224_3 := (HB.out.cell (World.block_lt_of_cell? w _ hx224_3)).trans hx224_3
                replace hx224_4 := (HB.out.cell (World.block_lt_of_cell? w _ hx224_4)).trans hx224_4
                replace hx224_5 := (HB.out.cell (World.block_lt_of_cell? w _ hx224_5)).trans hx224_5
                have HR224_4 := Aside0.mk hi224_4
                have HC224_4 := Aside0.mk hl224_4
                clear hi224_4 hl224_4
                have HR224_5 := Aside0.mk hi224_5
                have HC224_5 := Aside0.mk hl224_5
                clear hi224_5 hl224_5
                replace p224 := eq_true p224
                replace q224 := eq_true q224
                go_wp2_with (first | ((with_reducible refine gate_dst (N := 7) rfl ?_); refine box_event ?hg (N := 7) ?hd (cs := #[.int .i64 0, .int .i64 0, .int .u8 0, .int .i64 0, .slice none 0 0, .slice none 0 0]) (t := 76) ?hr ?_; (case hd => rfl); (case hg => rfl); (case hr => first | (go_simp; done) | (go_simp; rfl)); intro gb225 hg w10 hbox hb; have n0_ := Aside0.mk (Kd.R_below (by (with_reducible repeat (first | apply Kd.R_alloc | apply Kd.R_drewN | apply Kd.R_drew)); exact HO_5.out) hb); have n1_ := Aside0.mk (below_step (by repeat (first | (with_reducible first | exact HB.out | apply below_alloc | apply pw_below_drewN | apply below_drew1) | exact HB.out)) hb); have n2_ := Aside0.mk (hbox); have n3_ := Aside0.mk ((by rw [hg]; exact (below_size (by repeat (first | (with_reducible first | exact HB.out | apply below_alloc | apply pw_below_drewN | apply below_drew1) | exact HB.out))) : w.heap.size ≤ gb225)); have n4_ := Aside0.mk ((by rw [hg]; exact (below_size (by repeat (first | (with_reducible first | exact HB.out | apply below_alloc | apply pw_below_drewN | apply below_drew1) | exact HB.out))) : w.heap.size ≤ gb225)); clear HO_5; clear HB; have HO_5 := n0_; have HB := n1_; have BK225 := n2_; have GW225 := n3_; have GE225 := n4_; clear n0_ n1_ n2_ n3_ n4_; clear hb hbox hg; have hcz11_0 : w10.cell? ⟨gb225, 0, none⟩ = some (.int .i64 0) := (blk_cell BK225.out 0).trans rfl; have hcz11_1 : w10.cell? ⟨gb225, 1, none⟩ = some (.int .i64 0) := (blk_cell BK225.out 1).trans rfl; have hcz11_2 : w10.cell? ⟨gb225, 2, none⟩ = some (.int .u8 0) := (blk_cell BK225.out 2).trans rfl; have hcz11_3 : w10.cell? ⟨gb225, 3, none⟩ = some (.int .i64 0) := (blk_cell BK225.out 3).trans rfl; have hcz11_4 : w10.cell? ⟨gb225, 4, none⟩ = some (.slice none 0 0) := (blk_cell BK225.out 4).trans rfl; have hcz11_5 : w10.cell? ⟨gb225, 5, none⟩ = some (.slice none 0 0) := (blk_cell BK225.out 5).trans rfl; have hfz11_0 := blk_frozen BK225.out 0; have hfz11_1 := blk_frozen BK225.out 1; have hfz11_2 := blk_frozen BK225.out 2; have hfz11_3 := blk_frozen BK225.out 3; have hfz11_4 := blk_frozen BK225.out 4; have hfz11_5 := blk_frozen BK225.out 5))
                go_loopg [21] k1 (fun kq v21 w' => ∃ (x5_2 : List ByteArray) (x21_2 : Int), v21 = .int .i64 x21_2 ∧ Aside0 (spec_DrawTold.l1 kq l1 x5_2 l0 (l0.length : Int) x15_1 l1 (l1.length : Int) x21_2 ((rd_T76 l0 x15_1).f0) ((rd_T76 l0 x15_1).f1) ((rd_T76 l0 x15_1).f2) ((rd_T76 l0 x15_1).f3) ((rd_T76 l0 x15_1).f4) ((rd_T76 l0 x15_1).f5) = some r) ∧ Aside0 (kq ≤ k1) ∧ Aside0 (Kd.R Kd.string 9 w' w.heap.size (fun _ => True) v222 x5_2) ∧ Aside0 (w'.heap[gb225]? = some (.cells #[.int .i64 ((rd_T76 l0 x15_1).f0), .int .i64 ((rd_T76 l0 x15_1).f1), .int .u8 ((rd_T76 l0 x15_1).f2), .int .i64 ((rd_T76 l0 x15_1).f3), (.slice A224_4 ((rd_T76 l0 x15_1).f4).length c224_4), (.slice A224_5 ((rd_T76 l0 x15_1).f5).length c224_5)] 76 (0, 0))) ∧ Aside0 (Below w.heap.size w w'))
                case atStart => exact ⟨(x5_1), (0), (by first | rfl | (simp; done) | (simp [*]; done)), H', ⟨Nat.le_refl _⟩, ⟨by (with_reducible repeat (first | apply Kd.R_alloc | apply Kd.R_drewN | apply Kd.R_drew)); exact Kd.R_mono (Kd.R_far (p := ⟨gb225, 5, none⟩) (Kd.R_far (p := ⟨gb225, 4, none⟩) (Kd.R_far (p := ⟨gb225, 3, none⟩) (Kd.R_far (p := ⟨gb225, 2, none⟩) (Kd.R_far (p := ⟨gb225, 1, none⟩) (Kd.R_far (p := ⟨gb225, 0, none⟩) (Kd.R_types HO_5.out BK225.out (by decide)) (fun _ hk => hk.2) (.int .i64 ((rd_T76 l0 x15_1).f0))) (fun _ hk => hk.2) (.int .i64 ((rd_T76 l0 x15_1).f1))) (fun _ hk => hk.2) (.int .u8 ((rd_T76 l0 x15_1).f2))) (fun _ hk => hk.2) (.int .i64 ((rd_T76 l0 x15_1).f3))) (fun _ hk => hk.2) (.slice A224_4 ((rd_T76 l0 x15_1).f4).length c224_4)) (fun _ hk => hk.2) (.slice A224_5 ((rd_T76 l0 x15_1).f5).length c224_5)) (fun _ hk => trivial)⟩, ⟨by (with_reducible repeat (first | refine blk_drewN ?_ _ | refine blk_drew ?_ | refine blk_alloc ?_ _)); refine blk_put (cs := #[.int .i64 ((rd_T76 l0 x15_1).f0), .int .i64 ((rd_T76 l0 x15_1).f1), .int .u8 ((rd_T76 l0 x15_1).f2), .int .i64 ((rd_T76 l0 x15_1).f3), .slice A224_4 ((rd_T76 l0 x15_1).f4).length c224_4, .slice none 0 0]) ?_ 5 _ rfl; (with_reducible repeat (first | refine blk_drewN ?_ _ | refine blk_drew ?_ | refine blk_alloc ?_ _)); refine blk_put (cs := #[.int .i64 ((rd_T76 l0 x15_1).f0), .int .i64 ((rd_T76 l0 x15_1).f1), .int .u8 ((rd_T76 l0 x15_1).f2), .int .i64 ((rd_T76 l0 x15_1).f3), .slice none 0 0, .slice none 0 0]) ?_ 4 _ rfl; (with_reducible repeat (first | refine blk_drewN ?_ _ | refine blk_drew ?_ | refine blk_alloc ?_ _)); refine blk_put (cs := #[.int .i64 ((rd_T76 l0 x15_1).f0), .int .i64 ((rd_T76 l0 x15_1).f1), .int .u8 ((rd_T76 l0 x15_1).f2), .int .i64 0, .slice none 0 0, .slice none 0 0]) ?_ 3 _ rfl; (with_reducible repeat (first | refine blk_drewN ?_ _ | refine blk_drew ?_ | refine blk_alloc ?_ _)); refine blk_put (cs := #[.int .i64 ((rd_T76 l0 x15_1).f0), .int .i64 ((rd_T76 l0 x15_1).f1), .int .u8 0, .int .i64 0, .slice none 0 0, .slice none 0 0]) ?_ 2 _ rfl; (with_reducible repeat (first | refine blk_drewN ?_ _ | refine blk_drew ?_ | refine blk_alloc ?_ _)); refine blk_put (cs := #[.int .i64 ((rd_T76 l0 x15_1).f0), .int .i64 0, .int .u8 0, .int .i64 0, .slice none 0 0, .slice none 0 0]) ?_ 1 _ rfl; (with_reducible repeat (first | refine blk_drewN ?_ _ | refine blk_drew ?_ | refine blk_alloc ?_ _)); refine blk_put (cs := #[.int .i64 0, .int .i64 0, .int .u8 0, .int .i64 0, .slice none 0 0, .slice none 0 0]) ?_ 0 _ rfl; (with_reducible repeat (first | refine blk_drewN ?_ _ | refine blk_drew ?_ | refine blk_alloc ?_ _)); exact BK225.out⟩, ⟨by repeat (first | (with_reducible first | exact HB.out | apply below_alloc | apply pw_below_drewN | apply below_drew1 | refine below_set ?_ GE225.out) | exact HB.out)⟩⟩
                case round =>
                  clear H'
                  try clear c1
                  try clear c2
                  try clear p2
                  try clear q2
                  try clear hx2
                  try clear c3
                  try clear c3b0
                  try clear c3b1
                  try clear c4
                  try clear c4b0
                  try clear c4b1
                  try clear c7
                  try clear c7b0
                  try clear c8
                  try clear c8b0
                  try clear c9
                  try clear c9b0
                  try clear hcz11_0
                  try clear hcz11_1
                  try clear hcz11_2
                  try clear hcz11_3
                  try clear hcz11_4
                  try clear hcz11_5
                  try clear hfz11_0
                  try clear hfz11_1
                  try clear hfz11_2
                  try clear hfz11_3
                  try clear hfz11_4
                  try clear hfz11_5
                  try clear hx224_0
                  try clear hx224_1
                  try clear hx224_2
                  try clear hx224_3
                  try clear hx224_4
                  try clear hx224_5
                  try clear p2
                  try clear p224
                  try clear q224
                  obtain ⟨x5_2, x21_2, rfl, HA, HK2, HO_5, BK225, HB⟩ := hrel
                  cases gk with
                  | zero => exact absurd HA.out (by simp [spec_DrawTold.l1])
                  | succ k2 =>
                    have H := HA.out
                    clear HA
                    simp only [spec_DrawTold.l1] at H
                    by_cases c12 : x21_2 < (l1.length : Int)
                    · rw [if_pos c12] at H
                      have c12b0 : decide (x21_2 < (l1.length : Int)) = true := decide_eq_true c12
                      clear c12
                      by_cases c13 : 0 ≤ x21_2
                      · rw [if_pos c13] at H
                        have c13b0 : decide (0 ≤ x21_2) = true := decide_eq_true c13
                        clear c13
                        by_cases c14 : x21_2 < (l1.length : Int)
                        · rw [if_pos c14] at H
                          have c14b0 : decide (x21_2 < (l1.length : Int)) = true := decide_eq_true c14
                          clear c14
                          by_cases c15 : ((rd_T76 l0 x15_1).f0) = 5
                          · rw [if_pos c15] at H
                            have c15b0 : (((rd_T76 l0 x15_1).f0) == 5) = true := beq_iff_eq.mpr c15
                            have c15b1 : (((rd_T76 l0 x15_1).f0) != 5) = false := bne_eq_false_iff_eq.mpr c15
                            clear c15
                            by_cases c16 : ((rd_T76 l0 x15_1).f3) = (rd l1 x21_2)
                            · rw [if_pos c16] at H
                              have c16b0 : (((rd_T76 l0 x15_1).f3) == (rd l1 x21_2)) = true := beq_iff_eq.mpr c16
                              have c16b1 : (((rd_T76 l0 x15_1).f3) != (rd l1 x21_2)) = false := bne_eq_false_iff_eq.mpr c16
                              clear c16
                              replace H := Option.bind_eq_some_iff.mp H
                              obtain ⟨t227, A170, H⟩ := H
                              replace H : (if x21_2 < (x5_2.length : Int) then (spec_DrawTold.l1 k2 l1 (x5_2.set (x21_2 : Int).toNat t227) l0 (l0.length : Int) x15_1 l1 (l1.length : Int) (wrap64 (x21_2 + 1)) ((rd_T76 l0 x15_1).f0) ((rd_T76 l0 x15_1).f1) ((rd_T76 l0 x15_1).f2) ((rd_T76 l0 x15_1).f3) ((rd_T76 l0 x15_1).f4) ((rd_T76 l0 x15_1).f5)) else (none)) = some r := H
                              have A17 := Aside0.mk A170
                              clear A170
                              by_cases c18 : x21_2 < (x5_2.length : Int)
                              · rw [if_pos c18] at H
                                have c18b0 : decide (x21_2 < (x5_2.length : Int)) = true := decide_eq_true c18
                                clear c18
                                obtain ⟨y228, hy228⟩ : ∃ y_ : List ByteArray, y_ = (x5_2.set (x21_2 : Int).toNat t227) := ⟨_, rfl⟩
                                replace H : (spec_DrawTold.l1 k2 l1 y228 l0 (l0.length : Int) x15_1 l1 (l1.length : Int) (wrap64 (x21_2 + 1)) ((rd_T76 l0 x15_1).f0) ((rd_T76 l0 x15_1).f1) ((rd_T76 l0 x15_1).f2) ((rd_T76 l0 x15_1).f3) ((rd_T76 l0 x15_1).f4) ((rd_T76 l0 x15_1).f5)) = some r := by first | (rw [hy228]; with_reducible exact H) | (have H2_ := (Option.bind_some _ _).symm.trans H; rw [hy228]; with_reducible exact H2_) | (have H2_ := (Option.bind_some _ _).symm.trans H; with_reducible exact H2_) | with_reducible exact H | (rw [hy228]; exact H) | exact H
                                have Ny228 := Aside0.mk hy228
                                clear hy228
                                have H' := Aside0.mk H
                                clear H
                                have p226 : 0 ≤ (x21_2 : Int) := of_decide_eq_true (by first | (with_reducible assumption) | assumption)
                                have q226 : x21_2 < (l1.length : Int) := of_decide_eq_true (by first | (with_reducible assumption) | assumption)
                                obtain ⟨ad226, e226, hx226_0⟩ := Kd.at_int HR1.out x21_2 p226 q226
                                cases e226
                                replace hx226_0 := (HB.out.cell (World.block_lt_of_cell? w _ hx226_0)).trans hx226_0
                                replace p226 := eq_true p226
                                replace q226 := eq_true q226
                                have hcz20_0 : wr.cell? ⟨gb225, 0, none⟩ = some (.int .i64 ((rd_T76 l0 x15_1).f0)) := (blk_cell BK225.out 0).trans rfl
                                have hcz20_1 : wr.cell? ⟨gb225, 1, none⟩ = some (.int .i64 ((rd_T76 l0 x15_1).f1)) := (blk_cell BK225.out 1).trans rfl
                                have hcz20_2 : wr.cell? ⟨gb225, 2, none⟩ = some (.int .u8 ((rd_T76 l0 x15_1).f2)) := (blk_cell BK225.out 2).trans rfl
                                have hcz20_3 : wr.cell? ⟨gb225, 3, none⟩ = some (.int .i64 ((rd_T76 l0 x15_1).f3)) := (blk_cell BK225.out 3).trans rfl
                                have hcz20_4 : wr.cell? ⟨gb225, 4, none⟩ = some (.slice A224_4 ((rd_T76 l0 x15_1).f4).length c224_4) := (blk_cell BK225.out 4).trans rfl
                                have hcz20_5 : wr.cell? ⟨gb225, 5, none⟩ = some (.slice A224_5 ((rd_T76 l0 x15_1).f5).length c224_5) := (blk_cell BK225.out 5).trans rfl
                                have hfz20_0 := blk_frozen BK225.out 0
                                have hfz20_1 := blk_frozen BK225.out 1
                                have hfz20_2 := blk_frozen BK225.out 2
                                have hfz20_3 := blk_frozen BK225.out 3
                                have hfz20_4 := blk_frozen BK225.out 4
                                have hfz20_5 := blk_frozen BK225.out 5
                                have hcv21 := Kd.C_string (P := Tryz.prog) (A := A224_5) (c := c224_5) Tryz.underlying30 Tryz.underlying5 Tryz.underlying9 (Kd.C_below HR224_5.out HB.out)
                                go_wp2_with (first | ((with_reducible refine gate_callee (f := 112) rfl ?_); refine goesL_ (some 40) rfl rfl Tryz.func112 (by kernel_rfl) rfl #[.string (strOfNums ((rd_T76 l0 x15_1).f5)), .int .i64 1] rfl (by (try simp only [List.map_toArray, List.map_cons, List.map_nil]); first | done | rfl | (simp only [List.length_drop, List.length_take]; rfl)) ?_; (with_reducible refine (spec_drawBehind.calls k2 (strOfNums ((rd_T76 l0 x15_1).f5)) 1 t227 _ A17.out).mono ?_); rintro e w' ⟨rfl, ⟨nd, rfl⟩⟩; refine ⟨_, rfl, ?_⟩; (try (rw [drewN_self wr]; generalize hq_ : World.drewN wr _ = wr; have n0_ : Aside0 (Kd.R Kd.string 9 wr w.heap.size (fun _ => True) v222 x5_2) := ⟨by rw [← hq_]; exact (by (with_reducible repeat (first | apply Kd.R_alloc | apply Kd.R_drewN | apply Kd.R_drew)); exact HO_5.out)⟩; have n1_ : Aside0 (wr.heap[gb225]? = some (.cells #[.int .i64 ((rd_T76 l0 x15_1).f0), .int .i64 ((rd_T76 l0 x15_1).f1), .int .u8 ((rd_T76 l0 x15_1).f2), .int .i64 ((rd_T76 l0 x15_1).f3), .slice A224_4 ((rd_T76 l0 x15_1).f4).length c224_4, .slice A224_5 ((rd_T76 l0 x15_1).f5).length c224_5] 76 (0, 0))) := ⟨by rw [← hq_]; exact (by (with_reducible repeat (first | refine blk_drewN ?_ _ | refine blk_drew ?_ | refine blk_alloc ?_ _)); exact BK225.out)⟩; have n2_ : Aside0 (Below w.heap.size w wr) := ⟨by rw [← hq_]; exact (by repeat (first | (with_reducible first | exact HB.out | apply below_alloc | apply pw_below_drewN | apply below_drew1 | refine below_set ?_ GE225.out) | exact HB.out))⟩; clear HO_5 BK225 HB hq_; have HO_5 := n0_; have BK225 := n1_; have HB := n2_; clear n0_ n1_ n2_)); have p19 : 0 ≤ (x21_2 : Int) := of_decide_eq_true (by first | (with_reducible assumption) | assumption); have q19 : (x21_2 : Int) < ((x5_2.length : Int) : Int) := of_decide_eq_true (by first | (with_reducible assumption) | assumption); obtain ⟨go19, co19, eo19, gb19, gl19, cl19, HG19⟩ := Kd.R_form HO_5.out (by omega); (first | cases eo19 | (injection eo19 with ea_ en_ ec_; (first | subst ea_ | (injection ea_ with ea_; subst ea_)); subst ec_; clear en_)); have GB19 := Aside0.mk gb19; have GG19 := Aside0.mk HG19; clear gb19 gl19 HG19; obtain ⟨hx19_0, hf19_0⟩ := Kd.R_celln (⟨#[]⟩ : ByteArray) HO_5.out (x21_2 : Int) p19 q19; replace p19 := eq_true p19; replace q19 := eq_true q19; obtain ⟨hy22_, hz22_⟩ := Kd.R_celln (⟨#[]⟩ : ByteArray) HO_5.out (x21_2 : Int) (of_decide_eq_true (by first | (with_reducible assumption) | assumption)) (of_decide_eq_true (by first | (with_reducible assumption) | assumption)); have HP22 := Kd.R_putg HO_5.out (x21_2 : Int) t227) | ((with_reducible refine gate_store (t := 9) (p := 41) rfl ?_); refine store_event (t := 9) (p := 41) (v := ?vo_w23) (w1 := (wr.setCell ⟨go19, (x21_2 : Int).toNat, none⟩ (.string t227))) ?hg ?ho ?hn ?hr ?_; (case ho => rfl); (case hg => rfl); (case hn => rfl); (case hr => first | (go_simp; done) | (go_simp; rfl)); intro w23 hw; have hg : wr.grownBy w23 (some go19) := (by rw [hw]; exact HP22.2); have hp_ : Kd.R Kd.string 9 w23 w.heap.size (fun _ => True) (.slice (some ⟨go19, 0, none⟩) x5_2.length co19) y228 := (by rw [hw, Ny228.out]; exact HP22.1); clear HP22; have n0_ := Aside0.mk (hp_); have n1_ := Aside0.mk (blk_grown (g := gb225) (o := .cells #[.int .i64 ((rd_T76 l0 x15_1).f0), .int .i64 ((rd_T76 l0 x15_1).f1), .int .u8 ((rd_T76 l0 x15_1).f2), .int .i64 ((rd_T76 l0 x15_1).f3), .slice A224_4 ((rd_T76 l0 x15_1).f4).length c224_4, .slice A224_5 ((rd_T76 l0 x15_1).f5).length c224_5] 76 (0, 0)) (by (with_reducible repeat (first | refine blk_drewN ?_ _ | refine blk_drew ?_ | refine blk_alloc ?_ _)); exact BK225.out) hg (Kd.R_ne HO_5.out BK225.out (by decide))); have n2_ := Aside0.mk ((by rw [hw]; exact below_set (HB.out) GB19.out : Below w.heap.size w w23)); clear HO_5; clear BK225; clear HB; have HO_5 := n0_; have BK225 := n1_; have HB := n2_; clear n0_ n1_ n2_; clear hg hw hp_))
                                go_roundg k2
                                case measure => have := HK1.out; have := HK2.out; omega
                                case rel => exact ⟨(y228), (wrap64 (x21_2 + 1)), (by first | rfl | (simp; done) | (simp [*]; done)), H', ⟨by have := HK1.out; have := HK2.out; omega⟩, ⟨by (with_reducible repeat (first | apply Kd.R_alloc | apply Kd.R_drewN | apply Kd.R_drew)); exact HO_5.out⟩, ⟨by (with_reducible repeat (first | refine blk_drewN ?_ _ | refine blk_drew ?_ | refine blk_alloc ?_ _)); exact BK225.out⟩, ⟨by repeat (first | (with_reducible first | exact HB.out | apply below_alloc | apply pw_below_drewN | apply below_drew1 | refine below_set ?_ GE225.out) | exact HB.out)⟩⟩
                              · rw [if_neg c18] at H
                                exact absurd H (by simp)
                            · rw [if_neg c16] at H
                              have c16b0 : (((rd_T76 l0 x15_1).f3) == (rd l1 x21_2)) = false := beq_eq_false_iff_ne.mpr c16
                              have c16b1 : (((rd_T76 l0 x15_1).f3) != (rd l1 x21_2)) = true := bne_iff_ne.mpr c16
                              have H' := Aside0.mk H
                              clear H
                              have p226 : 0 ≤ (x21_2 : Int) := of_decide_eq_true (by first | (with_reducible assumption) | assumption)
                              have q226 : x21_2 < (l1.length : Int) := of_decide_eq_true (by first | (with_reducible assumption) | assumption)
                              obtain ⟨ad226, e226, hx226_0⟩ := Kd.at_int HR1.out x21_2 p226 q226
                              cases e226
                              replace hx226_0 := (HB.out.cell (World.block_lt_of_cell? w _ hx226_0)).trans hx226_0
                              replace p226 := eq_true p226
                              replace q226 := eq_true q226
                              have hcz24_0 : wr.cell? ⟨gb225, 0, none⟩ = some (.int .i64 ((rd_T76 l0 x15_1).f0)) := (blk_cell BK225.out 0).trans rfl
                              have hcz24_1 : wr.cell? ⟨gb225, 1, none⟩ = some (.int .i64 ((rd_T76 l0 x15_1).f1)) := (blk_cell BK225.out 1).trans rfl
                              have hcz24_2 : wr.cell? ⟨gb225, 2, none⟩ = some (.int .u8 ((rd_T76 l0 x15_1).f2)) := (blk_cell BK225.out 2).trans rfl
                              have hcz24_3 : wr.cell? ⟨gb225, 3, none⟩ = some (.int .i64 ((rd_T76 l0 x15_1).f3)) := (blk_cell BK225.out 3).trans rfl
                              have hcz24_4 : wr.cell? ⟨gb225, 4, none⟩ = some (.slice A224_4 ((rd_T76 l0 x15_1).f4).length c224_4) := (blk_cell BK225.out 4).trans rfl
                              have hcz24_5 : wr.cell? ⟨gb225, 5, none⟩ = some (.slice A224_5 ((rd_T76 l0 x15_1).f5).length c224_5) := (blk_cell BK225.out 5).trans rfl
                              have hfz24_0 := blk_frozen BK225.out 0
                              have hfz24_1 := blk_frozen BK225.out 1
                              have hfz24_2 := blk_frozen BK225.out 2
                              have hfz24_3 := blk_frozen BK225.out 3
                              have hfz24_4 := blk_frozen BK225.out 4
                              have hfz24_5 := blk_frozen BK225.out 5
                              go_wp2
                              go_roundg k2
                              case measure => have := HK1.out; have := HK2.out; omega
                              case rel => exact ⟨(x5_2), (wrap64 (x21_2 + 1)), (by first | rfl | (simp; done) | (simp [*]; done)), H', ⟨by have := HK1.out; have := HK2.out; omega⟩, ⟨by (with_reducible repeat (first | apply Kd.R_alloc | apply Kd.R_drewN | apply Kd.R_drew)); exact HO_5.out⟩, ⟨by (with_reducible repeat (first | refine blk_drewN ?_ _ | refine blk_drew ?_ | refine blk_alloc ?_ _)); exact BK225.out⟩, ⟨by repeat (first | (with_reducible first | exact HB.out | apply below_alloc | apply pw_below_drewN | apply below_drew1 | refine below_set ?_ GE225.out) | exact HB.out)⟩⟩
                          · rw [if_neg c15] at H
                            have c15b0 : (((rd_T76 l0 x15_1).f0) == 5) = false := beq_eq_false_iff_ne.mpr c15
                            have c15b1 : (((rd_T76 l0 x15_1).f0) != 5) = true := bne_iff_ne.mpr c15
                            have H' := Aside0.mk H
                            clear H
                            have p226 : 0 ≤ (x21_2 : Int) := of_decide_eq_true (by first | (with_reducible assumption) | assumption)
                            have q226 : x21_2 < (l1.length : Int) := of_decide_eq_true (by first | (with_reducible assumption) | assumption)
                            obtain ⟨ad226, e226, hx226_0⟩ := Kd.at_int HR1.out x21_2 p226 q226
                            cases e226
                            replace hx226_0 := (HB.out.cell (World.block_lt_of_cell? w _ hx226_0)).trans hx226_0
                            replace p226 := eq_true p226
                            replace q226 := eq_true q226
                            have hcz25_0 : wr.cell? ⟨gb225, 0, none⟩ = some (.int .i64 ((rd_T76 l0 x15_1).f0)) := (blk_cell BK225.out 0).trans rfl
                            have hcz25_1 : wr.cell? ⟨gb225, 1, none⟩ = some (.int .i64 ((rd_T76 l0 x15_1).f1)) := (blk_cell BK225.out 1).trans rfl
                            have hcz25_2 : wr.cell? ⟨gb225, 2, none⟩ = some (.int .u8 ((rd_T76 l0 x15_1).f2)) := (blk_cell BK225.out 2).trans rfl
                            have hcz25_3 : wr.cell? ⟨gb225, 3, none⟩ = some (.int .i64 ((rd_T76 l0 x15_1).f3)) := (blk_cell BK225.out 3).trans rfl
                            have hcz25_4 : wr.cell? ⟨gb225, 4, none⟩ = some (.slice A224_4 ((rd_T76 l0 x15_1).f4).length c224_4) := (blk_cell BK225.out 4).trans rfl
                            have hcz25_5 : wr.cell? ⟨gb225, 5, none⟩ = some (.slice A224_5 ((rd_T76 l0 x15_1).f5).length c224_5) := (blk_cell BK225.out 5).trans rfl
                            have hfz25_0 := blk_frozen BK225.out 0
                            have hfz25_1 := blk_frozen BK225.out 1
                            have hfz25_2 := blk_frozen BK225.out 2
                            have hfz25_3 := blk_frozen BK225.out 3
                            have hfz25_4 := blk_frozen BK225.out 4
                            have hfz25_5 := blk_frozen BK225.out 5
                            go_wp2
                            go_roundg k2
                            case measure => have := HK1.out; have := HK2.out; omega
                            case rel => exact ⟨(x5_2), (wrap64 (x21_2 + 1)), (by first | rfl | (simp; done) | (simp [*]; done)), H', ⟨by have := HK1.out; have := HK2.out; omega⟩, ⟨by (with_reducible repeat (first | apply Kd.R_alloc | apply Kd.R_drewN | apply Kd.R_drew)); exact HO_5.out⟩, ⟨by (with_reducible repeat (first | refine blk_drewN ?_ _ | refine blk_drew ?_ | refine blk_alloc ?_ _)); exact BK225.out⟩, ⟨by repeat (first | (with_reducible first | exact HB.out | apply below_alloc | apply pw_below_drewN | apply below_drew1 | refine below_set ?_ GE225.out) | exact HB.out)⟩⟩
                        · rw [if_neg c14] at H
                          exact absurd H (by simp)
                      · rw [if_neg c13] at H
                        exact absurd H (by simp)
                    · rw [if_neg c12] at H
                      have c12b0 : decide (x21_2 < (l1.length : Int)) = false := decide_eq_false c12
                      clear c12
                      have H' := Aside0.mk H
                      clear H
                      go_wp2
                      go_roundg k2
                      case measure => have := HK1.out; have := HK2.out; omega
                      case rel => exact ⟨(x5_2), (wrap64 (x15_1 + 1)), (by first | rfl | (simp; done) | (simp [*]; done)), H', ⟨by have := HK1.out; have := HK2.out; omega⟩, ⟨by (with_reducible repeat (first | apply Kd.R_alloc | apply Kd.R_drewN | apply Kd.R_drew)); exact HO_5.out⟩, ⟨by repeat (first | (with_reducible first | exact HB.out | apply below_alloc | apply pw_below_drewN | apply below_drew1 | refine below_set ?_ GE225.out) | exact HB.out)⟩⟩
              · rw [if_neg c9] at H
                exact absurd H (by simp)
            · rw [if_neg c8] at H
              exact absurd H (by simp)
          · rw [if_neg c7] at H
            have c7b0 : decide (x15_1 < (l0.length : Int)) = false := decide_eq_false c7
            clear c7
            obtain rfl := Option.some.inj H
            go_wp2
            go_ret
            exact ⟨_, by first | rfl | (simp [errW_none, errW_some] <;> rfl) | (simp [*, errW_none, errW_some] <;> rfl), by (with_reducible repeat (first | apply Kd.R_alloc | apply Kd.R_drewN | apply Kd.R_drew)); exact HO_5.out, by repeat (first | (with_reducible first | exact HB.out | apply below_alloc | apply pw_below_drewN | apply below_drew1) | exact HB.out)⟩
    · rw [if_neg c4] at H
      exact absurd H (by simp)
  · rw [if_neg c3] at H
    exact absurd H (by simp)
end Go.Proofs.YtkklhlakklcnbaaGreatDoorRRR.Y
end
