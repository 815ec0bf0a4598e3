/- Texts of this claim, joined: Y52 XScrScreen Y1 Y2. Of each, what the claim uses. -/
import Derived.Test.YteebhoehflgfoaaGreatDoorKac
import Derived.Test.YteebhoehflgfoaaGreatDoorKat
import Derived.Test.YteebhoehflgfoaaGreatDoorKbd
import Derived.Test.YteebhoehflgfoaaGreatDoorKbe
import Derived.Test.YteebhoehflgfoaaGreatDoorKax
section
namespace Go.Proofs.YteebhoehflgfoaaGreatDoor.Y
open Go.RowKit Go.Proofs.YteebhoehflgfoaaGreatDoorW.PrintWords Go.Proofs.YteebhoehflgfoaaGreatDoorW.PrintLast Go.Proofs.YteebhoehflgfoaaGreatDoorW.PrintMore
attribute [local go_sem] max2_int min2_int max_two min_two max_three min_three max_four min_four
set_option linter.unusedVariables false
set_option linter.unusedSimpArgs false
set_option maxHeartbeats 8000000 in
set_option maxRecDepth 100000 in
theorem laws_drawEvents.calls (k : Nat) (P0_ : Nat → Prop) (A0 : Option Addr) (c0 : Nat) (l0 : List (S43)) (r : List (S137)) (w : World) (hs0 : Kd.V k43 43 w w.heap.size (fun k_ => P0_ k_) (.slice A0 l0.length c0) l0) (h : laws_drawEvents.f k l0 = some r) :
  Calls Tryz.prog 64 #[.slice A0 l0.length c0] w fun e w' => ∃ v0_ : Value, e = .returned (v0_) ∧ Kd.N k137 137 w' w.heap.size (fun k_ => (P0_ k_ ∨ w.heap.size ≤ k_)) v0_ r ∧ Below w.heap.size w w' := by
 have hu43 := Tryz.underlying43
 have HO0 := Aside0.mk (show Kd.V k43 43 w w.heap.size (fun k_ => (P0_ k_ ∨ w.heap.size ≤ k_)) (.slice A0 l0.length c0) l0 from Kd.V_mono hs0 (fun k_ hk => .inl hk))
 have HB := Aside0.mk (Below.refl w.heap.size w)
 have H : (laws_drawEvents.l0 k ([] : List (S137)) l0 (l0.length : Int) 0) = some r := h
 clear h
 have H' := Aside0.mk H
 clear H
 go_enter Tryz.func64, Tryz.ntmps64
 go_wp2
 go_loopg [3, 8] k (fun kq v3 v8 w' => ∃ (x3_1 : List (S137)) (x8_1 : Int), v8 = .int .i64 x8_1 ∧ Aside0 (laws_drawEvents.l0 kq x3_1 l0 (l0.length : Int) x8_1 = some r) ∧ Aside0 (kq ≤ k) ∧ Aside0 (Kd.N k137 137 w' w.heap.size (fun k_ => (P0_ k_ ∨ w.heap.size ≤ k_)) v3 x3_1) ∧ Aside0 (Kd.V k43 43 w' w.heap.size (fun k_ => (P0_ k_ ∨ w.heap.size ≤ k_) ∧ some k_ ≠ (v3 : Value).ownBlock) (.slice A0 l0.length c0) l0) ∧ Aside0 (Below w.heap.size w w'))
 case atStart => exact ⟨(([] : List (S137))), (0), (by first | rfl | (simp; done) | (simp [*]; done)), H', ⟨Nat.le_refl _⟩, ⟨by first | exact Kd.S_nil _ _ _ _ _ | exact Kd.N_nil _ _ _ _ _ | exact Kd.V_nil _ _ _ _ _ | exact Kd.Q_nil _ _ _ _ _ | exact Kd.R_nil _ _ _ _ _⟩, ⟨by (with_reducible repeat (first | apply Kd.V_alloc | apply Kd.V_drewN | apply Kd.V_drew)); exact Kd.V_mono HO0.out (fun _ hk => ⟨hk, (by simp [Value.ownBlock])⟩)⟩, ⟨by repeat (first | (with_reducible first | exact HB.out | apply below_alloc | apply pw_below_drewN | apply below_drew1) | exact HB.out)⟩⟩
 case round =>
  clear H'
  obtain ⟨x3_1, x8_1, rfl, HA, HK1, HO_3, HO_6, HB⟩ := hrel
  cases gk with
  | zero => exact absurd HA.out (by simp [laws_drawEvents.l0])
  | succ k1 =>
   have H := HA.out
   clear HA
   simp only [laws_drawEvents.l0] at H
   by_cases c2 : x8_1 < (l0.length : Int)
   ·rw [if_pos c2] at H
    have c2b0 : decide (x8_1 < (l0.length : Int)) = true := decide_eq_true c2
    clear c2
    by_cases c3 : 0 ≤ x8_1
    ·rw [if_pos c3] at H
     have c3b0 : decide (0 ≤ x8_1) = true := decide_eq_true c3
     clear c3
     by_cases c4 : x8_1 < (l0.length : Int)
     ·rw [if_pos c4] at H
      have c4b0 : decide (x8_1 < (l0.length : Int)) = true := decide_eq_true c4
      clear c4
      by_cases c5 : x3_1.length < 1759218604441
      ·rw [if_pos c5] at H
       have LMc5 := Aside0.mk c5
       clear c5
       obtain ⟨y184, hy184⟩ : ∃ y_ : List (S137), y_ = (x3_1 ++ [(⟨(rd_T43 l0 x8_1).f0, (rd_T43 l0 x8_1).f1, (rd_T43 l0 x8_1).f2, (rd_T43 l0 x8_1).f3, (rd_T43 l0 x8_1).f4, (rd_T43 l0 x8_1).f5⟩ : S137)]) := ⟨_, rfl⟩
       replace H : (laws_drawEvents.l0 k1 y184 l0 (l0.length : Int) (wrap64 (x8_1 + 1))) = some r := by first | (rw [hy184]; with_reducible exact H) | (have H2_ := (Option.bind_some _ _).symm.trans H; rw [hy184]; with_reducible exact H2_) | (have H2_ := (Option.bind_some _ _).symm.trans H; with_reducible exact H2_) | with_reducible exact H | (rw [hy184]; exact H) | exact H
       have Ny184 := Aside0.mk hy184
       clear hy184
       have H' := Aside0.mk H
       clear H
       have p182 : 0 ≤ (x8_1 : Int) := of_decide_eq_true (by first | (with_reducible assumption) | assumption)
       have q182 : x8_1 < (l0.length : Int) := of_decide_eq_true (by first | (with_reducible assumption) | assumption)
       obtain ⟨ad182, A182_4, c182_4, A182_5, c182_5, e182, hx182_0, hx182_1, hx182_2, hx182_3, hx182_4, hx182_5, hl182_4, hi182_4, hl182_5, hi182_5⟩ := at_T43 (Kd.V_reads' HO_6.out).2.2 x8_1 p182 q182
       cases e182
       obtain ⟨ce182, hce182, hMe182, hcc182⟩ := Kd.V_get HO_6.out z43 x8_1 p182 (by first | exact q182 | exact of_decide_eq_true (by first | (with_reducible assumption) | assumption) | (have e_ := (Kd.V_reads' HO_6.out).1; omega))
       obtain ⟨ua182_4, uc182_4, ua182_5, uc182_5, rfl, ul182_4, ge182_4, ul182_5, ge182_5⟩ := k43_openF hMe182
       have hv182_4 := hcc182 4 _ rfl
       rw [add_field _ _ 4 (by omega)] at hv182_4
       replace hv182_4 := Option.some.inj (hv182_4.symm.trans hx182_4)
       injection hv182_4 with hva_ hvn_ hvc_
       rw [hva_] at ge182_4
       rw [hvc_] at ul182_4
       have HL182_4 := Aside0.mk (show Kd.V (Kd.int .i64) 2 _ w.heap.size _ _ ((rd_T43 l0 x8_1).f4) from Kd.V_mk ul182_4 ge182_4)
       clear hva_ hvn_ hvc_ ge182_4 ul182_4
       have hv182_5 := hcc182 5 _ rfl
       rw [add_field _ _ 5 (by omega)] at hv182_5
       replace hv182_5 := Option.some.inj (hv182_5.symm.trans hx182_5)
       injection hv182_5 with hva_ hvn_ hvc_
       rw [hva_] at ge182_5
       rw [hvc_] at ul182_5
       have HL182_5 := Aside0.mk (show Kd.V (Kd.int .u8) 5 _ w.heap.size _ _ ((rd_T43 l0 x8_1).f5) from Kd.V_mk ul182_5 ge182_5)
       clear hva_ hvn_ hvc_ ge182_5 ul182_5
       clear hcc182 hce182
       have HR182_4 := Aside0.mk hi182_4
       have HC182_4 := Aside0.mk hl182_4
       clear hi182_4 hl182_4
       have HR182_5 := Aside0.mk hi182_5
       have HC182_5 := Aside0.mk hl182_5
       clear hi182_5 hl182_5
       replace p182 := eq_true p182
       replace q182 := eq_true q182
       go_wp2_with (first | ((with_reducible refine gate_dst (N := 5) rfl ?_); refine box_event ?hg (N := 5) ?hd (cs := #[.int .i64 0, .int .i64 0, .int .u8 0, .int .i64 0, .slice none 0 0, .slice none 0 0]) (t := 43) ?hr ?_; (case hd => rfl); (case hg => rfl); (case hr => first | (go_simp; done) | (go_simp; rfl)); intro gb183 hg w6 hbox hb; have n0_ := Aside0.mk (Kd.N_below (Kd.N_elderB (by (with_reducible repeat (first | apply Kd.N_alloc | apply Kd.N_drewN | apply Kd.N_drew)); exact HO_3.out) gb183 (Nat.le_of_eq hg.symm)) hb); have n1_ := Aside0.mk (Kd.V_below (Kd.V_elderB (by (with_reducible repeat (first | apply Kd.V_alloc | apply Kd.V_drewN | apply Kd.V_drew)); exact HO_6.out) gb183 (Nat.le_of_eq hg.symm)) hb); have n2_ := Aside0.mk (Kd.V_below (Kd.V_elderB (by (with_reducible repeat (first | apply Kd.V_alloc | apply Kd.V_drewN | apply Kd.V_drew)); exact HL182_4.out) gb183 (Nat.le_of_eq hg.symm)) hb); have n3_ := Aside0.mk (Kd.V_below (Kd.V_elderB (by (with_reducible repeat (first | apply Kd.V_alloc | apply Kd.V_drewN | apply Kd.V_drew)); exact HL182_5.out) gb183 (Nat.le_of_eq hg.symm)) hb); have n4_ := Aside0.mk (Kd.C_below (by repeat (first | (with_reducible exact HR182_4.out) | (with_reducible refine Kd.C_alloc ?_ _) | (with_reducible refine Kd.C_drewN ?_ _) | (with_reducible refine Kd.C_drew ?_) | exact HR182_4.out)) hb); have n5_ := Aside0.mk (Kd.C_below (by repeat (first | (with_reducible exact HR182_5.out) | (with_reducible refine Kd.C_alloc ?_ _) | (with_reducible refine Kd.C_drewN ?_ _) | (with_reducible refine Kd.C_drew ?_) | exact HR182_5.out)) hb); have n6_ := Aside0.mk (below_step (by repeat (first | (with_reducible first | exact HB.out | apply below_alloc | apply pw_below_drewN | apply below_drew1) | exact HB.out)) hb); have n7_ := Aside0.mk (hbox); have n8_ := Aside0.mk ((by rw [hg]; exact (below_size (by repeat (first | (with_reducible first | exact HB.out | apply below_alloc | apply pw_below_drewN | apply below_drew1) | exact HB.out))) : w.heap.size ≤ gb183)); have n9_ := Aside0.mk ((by rw [hg]; exact (below_size (by repeat (first | (with_reducible first | exact HB.out | apply below_alloc | apply pw_below_drewN | apply below_drew1) | exact HB.out))) : w.heap.size ≤ gb183)); clear HO_3; clear HO_6; clear HL182_4; clear HL182_5; clear HR182_4; clear HR182_5; clear HB; have HO_3 := n0_; have HO_6 := n1_; have HL182_4 := n2_; have HL182_5 := n3_; have HR182_4 := n4_; have HR182_5 := n5_; have HB := n6_; have BK183 := n7_; have GW183 := n8_; have GE183 := n9_; clear n0_ n1_ n2_ n3_ n4_ n5_ n6_ n7_ n8_ n9_; clear hb hbox hg; have hcz7_0 : w6.cell? ⟨gb183, 0, none⟩ = some (.int .i64 0) := (blk_cell BK183.out 0).trans rfl; have hcz7_1 : w6.cell? ⟨gb183, 1, none⟩ = some (.int .i64 0) := (blk_cell BK183.out 1).trans rfl; have hcz7_2 : w6.cell? ⟨gb183, 2, none⟩ = some (.int .u8 0) := (blk_cell BK183.out 2).trans rfl; have hcz7_3 : w6.cell? ⟨gb183, 3, none⟩ = some (.int .i64 0) := (blk_cell BK183.out 3).trans rfl; have hcz7_4 : w6.cell? ⟨gb183, 4, none⟩ = some (.slice none 0 0) := (blk_cell BK183.out 4).trans rfl; have hcz7_5 : w6.cell? ⟨gb183, 5, none⟩ = some (.slice none 0 0) := (blk_cell BK183.out 5).trans rfl; have hfz7_0 := blk_frozen BK183.out 0; have hfz7_1 := blk_frozen BK183.out 1; have hfz7_2 := blk_frozen BK183.out 2; have hfz7_3 := blk_frozen BK183.out 3; have hfz7_4 := blk_frozen BK183.out 4; have hfz7_5 := blk_frozen BK183.out 5) | ((with_reducible refine gate_store (t := 43) (p := 5) rfl ?_); refine store_event (t := 43) (p := 5) (v := ?vo_w8) (w1 := ((((((w6.setCell ⟨gb183, 0, none⟩ (.int .i64 ((rd_T43 l0 x8_1).f0))).setCell ⟨gb183, 1, none⟩ (.int .i64 ((rd_T43 l0 x8_1).f1))).setCell ⟨gb183, 2, none⟩ (.int .u8 ((rd_T43 l0 x8_1).f2))).setCell ⟨gb183, 3, none⟩ (.int .i64 ((rd_T43 l0 x8_1).f3))).setCell ⟨gb183, 4, none⟩ (.slice A182_4 ((rd_T43 l0 x8_1).f4).length c182_4)).setCell ⟨gb183, 5, none⟩ (.slice A182_5 ((rd_T43 l0 x8_1).f5).length c182_5))) ?hg ?ho ?hn ?hr ?_; (case ho => rfl); (case hg => rfl); (case hn => rfl); (case hr => first | (go_simp; done) | (go_simp; rfl)); intro w8 hw; have n0_ : Aside0 (Kd.N k137 137 w8 w.heap.size (fun k_ => (P0_ k_ ∨ w.heap.size ≤ k_) ∧ k_ ≠ gb183) u3 x3_1) := ⟨(by rw [hw]; exact (by (with_reducible repeat (first | apply Kd.N_alloc | apply Kd.N_drewN | apply Kd.N_drew)); exact Kd.N_mono (Kd.N_far (p := ⟨gb183, 5, none⟩) (Kd.N_far (p := ⟨gb183, 4, none⟩) (Kd.N_far (p := ⟨gb183, 3, none⟩) (Kd.N_far (p := ⟨gb183, 2, none⟩) (Kd.N_far (p := ⟨gb183, 1, none⟩) (Kd.N_far (p := ⟨gb183, 0, none⟩) (Kd.N_mono HO_3.out (fun k_ hk => (⟨hk, hk.2⟩ : _ ∧ k_ ≠ gb183))) (fun _ hk => hk.2) (.int .i64 ((rd_T43 l0 x8_1).f0))) (fun _ hk => hk.2) (.int .i64 ((rd_T43 l0 x8_1).f1))) (fun _ hk => hk.2) (.int .u8 ((rd_T43 l0 x8_1).f2))) (fun _ hk => hk.2) (.int .i64 ((rd_T43 l0 x8_1).f3))) (fun _ hk => hk.2) (.slice A182_4 ((rd_T43 l0 x8_1).f4).length c182_4)) (fun _ hk => hk.2) (.slice A182_5 ((rd_T43 l0 x8_1).f5).length c182_5)) (fun _ hk => ⟨hk.1.1, hk.1.2⟩)))⟩; have n1_ : Aside0 (Kd.V k43 43 w8 w.heap.size (fun k_ => (P0_ k_ ∨ w.heap.size ≤ k_) ∧ some k_ ≠ (u3 : Value).ownBlock ∧ k_ ≠ gb183) (.slice (some ad182) l0.length c0) l0) := ⟨(by rw [hw]; exact (by (with_reducible repeat (first | apply Kd.V_alloc | apply Kd.V_drewN | apply Kd.V_drew)); exact Kd.V_mono (Kd.V_far (p := ⟨gb183, 5, none⟩) (Kd.V_far (p := ⟨gb183, 4, none⟩) (Kd.V_far (p := ⟨gb183, 3, none⟩) (Kd.V_far (p := ⟨gb183, 2, none⟩) (Kd.V_far (p := ⟨gb183, 1, none⟩) (Kd.V_far (p := ⟨gb183, 0, none⟩) (Kd.V_mono HO_6.out (fun k_ hk => (⟨hk, hk.2⟩ : _ ∧ k_ ≠ gb183))) (fun _ hk => hk.2) (.int .i64 ((rd_T43 l0 x8_1).f0))) (fun _ hk => hk.2) (.int .i64 ((rd_T43 l0 x8_1).f1))) (fun _ hk => hk.2) (.int .u8 ((rd_T43 l0 x8_1).f2))) (fun _ hk => hk.2) (.int .i64 ((rd_T43 l0 x8_1).f3))) (fun _ hk => hk.2) (.slice A182_4 ((rd_T43 l0 x8_1).f4).length c182_4)) (fun _ hk => hk.2) (.slice A182_5 ((rd_T43 l0 x8_1).f5).length c182_5)) (fun _ hk => ⟨hk.1.1.1, ⟨hk.1.1.2, hk.1.2⟩⟩)))⟩; have n2_ : Aside0 (Kd.V (Kd.int .i64) 2 w8 w.heap.size (fun k_ => (P0_ k_ ∨ w.heap.size ≤ k_) ∧ some k_ ≠ (u3 : Value).ownBlock ∧ k_ ≠ gb183) (.slice A182_4 ((rd_T43 l0 x8_1).f4).length c182_4) ((rd_T43 l0 x8_1).f4)) := ⟨(by rw [hw]; exact (by (with_reducible repeat (first | apply Kd.V_alloc | apply Kd.V_drewN | apply Kd.V_drew)); exact Kd.V_mono (Kd.V_far (p := ⟨gb183, 5, none⟩) (Kd.V_far (p := ⟨gb183, 4, none⟩) (Kd.V_far (p := ⟨gb183, 3, none⟩) (Kd.V_far (p := ⟨gb183, 2, none⟩) (Kd.V_far (p := ⟨gb183, 1, none⟩) (Kd.V_far (p := ⟨gb183, 0, none⟩) (Kd.V_mono HL182_4.out (fun k_ hk => (⟨hk, hk.2⟩ : _ ∧ k_ ≠ gb183))) (fun _ hk => hk.2) (.int .i64 ((rd_T43 l0 x8_1).f0))) (fun _ hk => hk.2) (.int .i64 ((rd_T43 l0 x8_1).f1))) (fun _ hk => hk.2) (.int .u8 ((rd_T43 l0 x8_1).f2))) (fun _ hk => hk.2) (.int .i64 ((rd_T43 l0 x8_1).f3))) (fun _ hk => hk.2) (.slice A182_4 ((rd_T43 l0 x8_1).f4).length c182_4)) (fun _ hk => hk.2) (.slice A182_5 ((rd_T43 l0 x8_1).f5).length c182_5)) (fun _ hk => ⟨hk.1.1.1, ⟨hk.1.1.2, hk.1.2⟩⟩)))⟩; have n3_ : Aside0 (Kd.V (Kd.int .u8) 5 w8 w.heap.size (fun k_ => (P0_ k_ ∨ w.heap.size ≤ k_) ∧ some k_ ≠ (u3 : Value).ownBlock ∧ k_ ≠ gb183) (.slice A182_5 ((rd_T43 l0 x8_1).f5).length c182_5) ((rd_T43 l0 x8_1).f5)) := ⟨(by rw [hw]; exact (by (with_reducible repeat (first | apply Kd.V_alloc | apply Kd.V_drewN | apply Kd.V_drew)); exact Kd.V_mono (Kd.V_far (p := ⟨gb183, 5, none⟩) (Kd.V_far (p := ⟨gb183, 4, none⟩) (Kd.V_far (p := ⟨gb183, 3, none⟩) (Kd.V_far (p := ⟨gb183, 2, none⟩) (Kd.V_far (p := ⟨gb183, 1, none⟩) (Kd.V_far (p := ⟨gb183, 0, none⟩) (Kd.V_mono HL182_5.out (fun k_ hk => (⟨hk, hk.2⟩ : _ ∧ k_ ≠ gb183))) (fun _ hk => hk.2) (.int .i64 ((rd_T43 l0 x8_1).f0))) (fun _ hk => hk.2) (.int .i64 ((rd_T43 l0 x8_1).f1))) (fun _ hk => hk.2) (.int .u8 ((rd_T43 l0 x8_1).f2))) (fun _ hk => hk.2) (.int .i64 ((rd_T43 l0 x8_1).f3))) (fun _ hk => hk.2) (.slice A182_4 ((rd_T43 l0 x8_1).f4).length c182_4)) (fun _ hk => hk.2) (.slice A182_5 ((rd_T43 l0 x8_1).f5).length c182_5)) (fun _ hk => ⟨hk.1.1.1, ⟨hk.1.1.2, hk.1.2⟩⟩)))⟩; have n4_ : Aside0 (w8.heap[gb183]? = some (.cells #[.int .i64 ((rd_T43 l0 x8_1).f0), .int .i64 ((rd_T43 l0 x8_1).f1), .int .u8 ((rd_T43 l0 x8_1).f2), .int .i64 ((rd_T43 l0 x8_1).f3), .slice A182_4 ((rd_T43 l0 x8_1).f4).length c182_4, .slice A182_5 ((rd_T43 l0 x8_1).f5).length c182_5] 43 (0, 0))) := ⟨(by rw [hw]; exact (by (with_reducible repeat (first | refine blk_drewN ?_ _ | refine blk_drew ?_ | refine blk_alloc ?_ _)); refine blk_put (cs := #[.int .i64 ((rd_T43 l0 x8_1).f0), .int .i64 ((rd_T43 l0 x8_1).f1), .int .u8 ((rd_T43 l0 x8_1).f2), .int .i64 ((rd_T43 l0 x8_1).f3), .slice A182_4 ((rd_T43 l0 x8_1).f4).length c182_4, .slice none 0 0]) ?_ 5 _ rfl; (with_reducible repeat (first | refine blk_drewN ?_ _ | refine blk_drew ?_ | refine blk_alloc ?_ _)); refine blk_put (cs := #[.int .i64 ((rd_T43 l0 x8_1).f0), .int .i64 ((rd_T43 l0 x8_1).f1), .int .u8 ((rd_T43 l0 x8_1).f2), .int .i64 ((rd_T43 l0 x8_1).f3), .slice none 0 0, .slice none 0 0]) ?_ 4 _ rfl; (with_reducible repeat (first | refine blk_drewN ?_ _ | refine blk_drew ?_ | refine blk_alloc ?_ _)); refine blk_put (cs := #[.int .i64 ((rd_T43 l0 x8_1).f0), .int .i64 ((rd_T43 l0 x8_1).f1), .int .u8 ((rd_T43 l0 x8_1).f2), .int .i64 0, .slice none 0 0, .slice none 0 0]) ?_ 3 _ rfl; (with_reducible repeat (first | refine blk_drewN ?_ _ | refine blk_drew ?_ | refine blk_alloc ?_ _)); refine blk_put (cs := #[.int .i64 ((rd_T43 l0 x8_1).f0), .int .i64 ((rd_T43 l0 x8_1).f1), .int .u8 0, .int .i64 0, .slice none 0 0, .slice none 0 0]) ?_ 2 _ rfl; (with_reducible repeat (first | refine blk_drewN ?_ _ | refine blk_drew ?_ | refine blk_alloc ?_ _)); refine blk_put (cs := #[.int .i64 ((rd_T43 l0 x8_1).f0), .int .i64 0, .int .u8 0, .int .i64 0, .slice none 0 0, .slice none 0 0]) ?_ 1 _ rfl; (with_reducible repeat (first | refine blk_drewN ?_ _ | refine blk_drew ?_ | refine blk_alloc ?_ _)); refine blk_put (cs := #[.int .i64 0, .int .i64 0, .int .u8 0, .int .i64 0, .slice none 0 0, .slice none 0 0]) ?_ 0 _ rfl; (with_reducible repeat (first | refine blk_drewN ?_ _ | refine blk_drew ?_ | refine blk_alloc ?_ _)); exact BK183.out))⟩; have n5_ : Aside0 (Below w.heap.size w w8) := ⟨(by rw [hw]; exact (by repeat (first | (with_reducible first | exact HB.out | apply below_alloc | apply pw_below_drewN | apply below_drew1 | refine below_set ?_ GE183.out) | exact HB.out)))⟩; clear hw; clear HO_3; clear HO_6; clear HL182_4; clear HL182_5; clear BK183; clear HB; have HO_3 := n0_; have HO_6 := n1_; have HL182_4 := n2_; have HL182_5 := n3_; have BK183 := n4_; have HB := n5_; clear n0_ n1_ n2_ n3_ n4_ n5_; have hcz9_0 : w8.cell? ⟨gb183, 0, none⟩ = some (.int .i64 ((rd_T43 l0 x8_1).f0)) := (blk_cell BK183.out 0).trans rfl; have hcz9_1 : w8.cell? ⟨gb183, 1, none⟩ = some (.int .i64 ((rd_T43 l0 x8_1).f1)) := (blk_cell BK183.out 1).trans rfl; have hcz9_2 : w8.cell? ⟨gb183, 2, none⟩ = some (.int .u8 ((rd_T43 l0 x8_1).f2)) := (blk_cell BK183.out 2).trans rfl; have hcz9_3 : w8.cell? ⟨gb183, 3, none⟩ = some (.int .i64 ((rd_T43 l0 x8_1).f3)) := (blk_cell BK183.out 3).trans rfl; have hcz9_4 : w8.cell? ⟨gb183, 4, none⟩ = some (.slice A182_4 ((rd_T43 l0 x8_1).f4).length c182_4) := (blk_cell BK183.out 4).trans rfl; have hcz9_5 : w8.cell? ⟨gb183, 5, none⟩ = some (.slice A182_5 ((rd_T43 l0 x8_1).f5).length c182_5) := (blk_cell BK183.out 5).trans rfl; have hfz9_0 := blk_frozen BK183.out 0; have hfz9_1 := blk_frozen BK183.out 1; have hfz9_2 := blk_frozen BK183.out 2; have hfz9_3 := blk_frozen BK183.out 3; have hfz9_4 := blk_frozen BK183.out 4; have hfz9_5 := blk_frozen BK183.out 5) | ((with_reducible refine gate_builtin (b := .append) (xs := #[.tmp 12, .tmp 14]) rfl ?_); at_builtin; refine Kd.N_append k137 (w0 := w) w.heap.size rfl (.tmp 12) (.tmp 14) 78 137 (.agg #[(.int .i64 0), (.int .i64 0), (.int .u8 0), (.int .i64 0), (.slice none 0 0), (.slice none 0 0)]) 80 rfl Tryz.underlying78 info137 rfl (by decide) (by omega) u3 x3_1 (⟨(rd_T43 l0 x8_1).f0, (rd_T43 l0 x8_1).f1, (rd_T43 l0 x8_1).f2, (rd_T43 l0 x8_1).f3, (rd_T43 l0 x8_1).f4, (rd_T43 l0 x8_1).f5⟩ : S137) [.int .i64 ((rd_T43 l0 x8_1).f0), .int .i64 ((rd_T43 l0 x8_1).f1), .int .u8 ((rd_T43 l0 x8_1).f2), .int .i64 ((rd_T43 l0 x8_1).f3), .slice A182_4 ((rd_T43 l0 x8_1).f4).length c182_4, .slice A182_5 ((rd_T43 l0 x8_1).f5).length c182_5] (fun k_ => (P0_ k_ ∨ w.heap.size ≤ k_) ∧ k_ ≠ gb183) (fun k_ => ((fun k_ => (P0_ k_ ∨ w.heap.size ≤ k_) ∧ k_ ≠ gb183)) k_ ∧ some k_ ≠ (u3 : Value).ownBlock) rfl rfl ?aP (fun _ hk => hk) ?aF ?aO ?aB ?aS ?aL ?_; (case aP => exact (k137_mkF _ _ (⟨(rd_T43 l0 x8_1).f0, (rd_T43 l0 x8_1).f1, (rd_T43 l0 x8_1).f2, (rd_T43 l0 x8_1).f3, (rd_T43 l0 x8_1).f4, (rd_T43 l0 x8_1).f5⟩ : S137) (Kd.V_reads' (Kd.V_mono (ok' := (fun k_ => ((fun k_ => (P0_ k_ ∨ w.heap.size ≤ k_) ∧ k_ ≠ gb183)) k_ ∧ some k_ ≠ (u3 : Value).ownBlock)) (HL182_4.out) (fun k_ hk => ⟨⟨hk.1, hk.2.2⟩, hk.2.1⟩))).2.1 (Kd.V_F (Kd.V_mono (ok' := (fun k_ => ((fun k_ => (P0_ k_ ∨ w.heap.size ≤ k_) ∧ k_ ≠ gb183)) k_ ∧ some k_ ≠ (u3 : Value).ownBlock)) (HL182_4.out) (fun k_ hk => ⟨⟨hk.1, hk.2.2⟩, hk.2.1⟩))) (Kd.V_reads' (Kd.V_mono (ok' := (fun k_ => ((fun k_ => (P0_ k_ ∨ w.heap.size ≤ k_) ∧ k_ ≠ gb183)) k_ ∧ some k_ ≠ (u3 : Value).ownBlock)) (HL182_5.out) (fun k_ hk => ⟨⟨hk.1, hk.2.2⟩, hk.2.1⟩))).2.1 (Kd.V_F (Kd.V_mono (ok' := (fun k_ => ((fun k_ => (P0_ k_ ∨ w.heap.size ≤ k_) ∧ k_ ≠ gb183)) k_ ∧ some k_ ≠ (u3 : Value).ownBlock)) (HL182_5.out) (fun k_ hk => ⟨⟨hk.1, hk.2.2⟩, hk.2.1⟩))))); (case aB => exact (by repeat (first | (with_reducible first | exact HB.out | apply below_alloc | apply pw_below_drewN | apply below_drew1 | refine below_set ?_ GE183.out) | exact HB.out))); (case aF => exact (fun k_ hk => ⟨(.inr (Nat.le_trans (below_size (by repeat (first | (with_reducible first | exact HB.out | apply below_alloc | apply pw_below_drewN | apply below_drew1 | refine below_set ?_ GE183.out) | exact HB.out))) hk)), Kd.freshB (g := gb183) (o := .cells #[.int .i64 ((rd_T43 l0 x8_1).f0), .int .i64 ((rd_T43 l0 x8_1).f1), .int .u8 ((rd_T43 l0 x8_1).f2), .int .i64 ((rd_T43 l0 x8_1).f3), .slice A182_4 ((rd_T43 l0 x8_1).f4).length c182_4, .slice A182_5 ((rd_T43 l0 x8_1).f5).length c182_5] 43 (0, 0)) (by (with_reducible repeat (first | refine blk_drewN ?_ _ | refine blk_drew ?_ | refine blk_alloc ?_ _)); exact BK183.out) k_ hk⟩)); (case aO => exact (by (with_reducible repeat (first | apply Kd.N_alloc | apply Kd.N_drewN | apply Kd.N_drew)); exact HO_3.out)); (case aS => exact (below_size (by repeat (first | (with_reducible first | exact HB.out | apply below_alloc | apply pw_below_drewN | apply below_drew1 | refine below_set ?_ GE183.out) | exact HB.out)))); (case aL => have := LMc5.out; omega); intro v185 w10 ho hb hg hat; rw [← Ny184.out] at ho; have n0_ := Aside0.mk (Kd.V_afterv (ok := (fun k_ => (P0_ k_ ∨ w.heap.size ≤ k_) ∧ k_ ≠ gb183)) (by (with_reducible repeat (first | apply Kd.V_alloc | apply Kd.V_drewN | apply Kd.V_drew)); exact Kd.V_mono HO_6.out (fun _ hk => ⟨⟨hk.1, hk.2.2⟩, hk.2.1⟩)) hg hat); have n1_ := Aside0.mk (Kd.V_afterv (ok := (fun k_ => (P0_ k_ ∨ w.heap.size ≤ k_) ∧ k_ ≠ gb183)) (by (with_reducible repeat (first | apply Kd.V_alloc | apply Kd.V_drewN | apply Kd.V_drew)); exact Kd.V_mono HL182_4.out (fun _ hk => ⟨⟨hk.1, hk.2.2⟩, hk.2.1⟩)) hg hat); have n2_ := Aside0.mk (Kd.V_afterv (ok := (fun k_ => (P0_ k_ ∨ w.heap.size ≤ k_) ∧ k_ ≠ gb183)) (by (with_reducible repeat (first | apply Kd.V_alloc | apply Kd.V_drewN | apply Kd.V_drew)); exact Kd.V_mono HL182_5.out (fun _ hk => ⟨⟨hk.1, hk.2.2⟩, hk.2.1⟩)) hg hat); have n3_ := Aside0.mk (blk_grown (g := gb183) (o := .cells #[.int .i64 ((rd_T43 l0 x8_1).f0), .int .i64 ((rd_T43 l0 x8_1).f1), .int .u8 ((rd_T43 l0 x8_1).f2), .int .i64 ((rd_T43 l0 x8_1).f3), .slice A182_4 ((rd_T43 l0 x8_1).f4).length c182_4, .slice A182_5 ((rd_T43 l0 x8_1).f5).length c182_5] 43 (0, 0)) (by (with_reducible repeat (first | refine blk_drewN ?_ _ | refine blk_drew ?_ | refine blk_alloc ?_ _)); exact BK183.out) hg (Kd.N_ne HO_3.out BK183.out (by decide))); have n4_ := Aside0.mk (hb); have n5_ := Aside0.mk (ho); clear HO_6; clear HL182_4; clear HL182_5; clear BK183; clear HB; clear HO_3; have HO_6 := n0_; have HL182_4 := n1_; have HL182_5 := n2_; have BK183 := n3_; have HB := n4_; have HO186 := n5_; clear n0_ n1_ n2_ n3_ n4_ n5_; clear ho hb hg hat))
       go_roundg k1
       case measure => have := HK1.out; omega
       case rel => exact ⟨(y184), (wrap64 (x8_1 + 1)), (by first | rfl | (simp; done) | (simp [*]; done)), H', ⟨by have := HK1.out; omega⟩, ⟨by (with_reducible repeat (first | apply Kd.N_alloc | apply Kd.N_drewN | apply Kd.N_drew)); exact Kd.N_mono HO186.out (fun _ hk => hk.1)⟩, ⟨by (with_reducible repeat (first | apply Kd.V_alloc | apply Kd.V_drewN | apply Kd.V_drew)); exact Kd.V_mono HO_6.out (fun _ hk => ⟨hk.1.1, hk.2⟩)⟩, ⟨by repeat (first | (with_reducible first | exact HB.out | apply below_alloc | apply pw_below_drewN | apply below_drew1 | refine below_set ?_ GE183.out) | exact HB.out)⟩⟩
      ·rw [if_neg c5] at H
       exact absurd H (by simp)
     ·rw [if_neg c4] at H
      exact absurd H (by simp)
    ·rw [if_neg c3] at H
     exact absurd H (by simp)
   ·rw [if_neg c2] at H
    have c2b0 : decide (x8_1 < (l0.length : Int)) = false := decide_eq_false c2
    clear c2
    obtain rfl := Option.some.inj H
    go_wp2
    go_ret
    exact ⟨_, by first | rfl | (simp [errW_none, errW_some] <;> rfl) | (simp [*, errW_none, errW_some] <;> rfl), by (with_reducible repeat (first | apply Kd.N_alloc | apply Kd.N_drewN | apply Kd.N_drew)); exact HO_3.out, by repeat (first | (with_reducible first | exact HB.out | apply below_alloc | apply pw_below_drewN | apply below_drew1) | exact HB.out)⟩
end Go.Proofs.YteebhoehflgfoaaGreatDoor.Y
end
section
namespace Go.Proofs.YteebhoehflgfoaaGreatDoor.Y
open Go.RowKit Go.Proofs.YteebhoehflgfoaaGreatDoorW.PrintWords Go.Proofs.YteebhoehflgfoaaGreatDoorW.PrintLast Go.Proofs.YteebhoehflgfoaaGreatDoorW.PrintMore
set_option linter.unusedSimpArgs false
set_option linter.unusedVariables false
set_option maxRecDepth 100000
set_option maxHeartbeats 8000000
/-- A screen of one's own. -/
def Own (w w' : World) (g : Nat) (s : Scr) : Prop := (∃ B T c bs, w.heap.size ≤ B ∧ AtX w' B g T c bs s) ∧ Below w.heap.size w w'
theorem screen_calls (A0 : Option Addr) (c0 : Nat) (l0 : List S43) (P0 : Nat → Prop) (w : World) (hs0 : Kd.V k43 43 w w.heap.size P0 (.slice A0 l0.length c0) l0) (hl : l0.length ≤ 1000000)
  (ops : List S38) (hd : spec_DrawRead.f (l0.map cv) = some (ops, true)) (hop : ∀ o ∈ ops, Does o) (hn : ops.length ≤ 1000000) (Wd H : Nat) (hw : 1 ≤ Wd ∧ Wd ≤ 1000) (hh : 1 ≤ H ∧ H ≤ 1000) :
  Calls Tryz.prog 14 #[.int .i64 (Wd : Int), .int .i64 (H : Int), .slice A0 l0.length c0] w fun e w' => ∃ g, e = .returned (.tuple #[.pointer (some ⟨g, 0, none⟩), .bool true]) ∧ Hid (Own w w' g ((newScr Wd H).play attrA (ops.map po))) := by
 have hde := drawEvents_f l0 (by omega) 1000001 (by omega)
 generalize l0.map cv = sp at hd hde
 have HI := Lib.hid (And.intro hs0 (And.intro hde (And.intro hd (And.intro hop (And.intro hn (And.intro hw hh))))))
 clear hs0 hl hd hop hn hw hh hde
 go_enter Tryz.func14, Tryz.ntmps14
 go_wp2_with fail
 with_reducible refine (laws_drawEvents.calls 1000001 P0 _ _ l0 sp _ HI.out.1 HI.out.2.1).mono ?_
 rintro e w1 ⟨v1, rfl, hN, hb1⟩
 obtain ⟨A1, c1, rfl, hc1, hr1⟩ := Kd.N_reads hN
 have H1 := Lib.hid (And.intro hb1 (And.intro hc1 hr1))
 clear hN hb1 hc1 hr1
 go_wp2_with fail
 with_reducible refine (spec_DrawRead.calls _ _ sp ops true _ H1.out.2.2 H1.out.2.1 HI.out.2.2.1).mono ?_
 rintro e w2 ⟨v2, rfl, hS, hb2⟩
 obtain ⟨A2, c2, rfl, hc2, hr2⟩ := Kd.S_reads hS
 have H2 := Lib.hid (And.intro (Below.trans H1.out.1 (hb2.mono H1.out.1.size)) hr2)
 clear hS hb2 hc2 hr2 H1
 go_wp2_with fail
 refine (new_calls w2 Wd H HI.out.2.2.2.2.2.1 HI.out.2.2.2.2.2.2).mono ?_
 rintro e w3 ⟨rfl, ⟨T, c, bs, ha3⟩, hb3⟩
 have H3 := Lib.hid (And.intro ha3 hb3)
 clear ha3 hb3
 go_wp2_with fail
 refine (play_calls H3.out.1 (new_fine Wd H (by have := HI.out.2.2.2.2.2.1; omega) (by have := HI.out.2.2.2.2.2.1; omega) (by have := HI.out.2.2.2.2.2.2; omega) (by have := HI.out.2.2.2.2.2.2; omega)) A2 c2 ops H2.out.2 (Nat.le_refl _) H3.out.2 HI.out.2.2.2.1 HI.out.2.2.2.2.1).mono ?_
 rintro e w4 ⟨rfl, ⟨bs', ha4⟩, hb4⟩
 have H4 := Lib.hid (show Own w w4 w2.heap.size ((newScr Wd H).play attrA (ops.map po)) from ⟨⟨_, T, c, bs', H2.out.1.size, ha4⟩, H2.out.1.trans ((H3.out.2.trans hb4).mono H2.out.1.size)⟩)
 clear ha4 hb4 H3
 go_wp2_with fail
 go_ret2
 exact ⟨_, rfl, H4⟩
end Go.Proofs.YteebhoehflgfoaaGreatDoor.Y
end
section
namespace Go.Proofs.YteebhoehflgfoaaGreatDoor.Y
open Go.RowKit Go.Proofs.YteebhoehflgfoaaGreatDoorW.PrintWords Go.Proofs.YteebhoehflgfoaaGreatDoorW.PrintLast Go.Proofs.YteebhoehflgfoaaGreatDoorW.PrintMore
attribute [local go_sem] max2_int min2_int max_two min_two max_three min_three max_four min_four
set_option linter.unusedVariables false
set_option linter.unusedSimpArgs false
set_option maxHeartbeats 8000000 in
set_option maxRecDepth 100000 in
theorem laws_zzFits4.calls (a0_0 : Int) (a0_1 : Int) (a0_2 : Int) (a0_3 : ByteArray) (A0_4 : Option Addr) (c0_4 : Nat) (l0_4 : List Int) (r : Bool) (w : World) (hr0_4 : Kd.C (Kd.int .i64) w A0_4 l0_4.length l0_4) (hc0_4 : l0_4.length ≤ c0_4) (h : laws_zzFits4.f a0_0 a0_1 a0_2 a0_3 l0_4 = some r) :
  Calls Tryz.prog 17 #[.agg #[.int .i64 a0_0, .int .i64 a0_1, .int .i64 a0_2, .string a0_3, .slice A0_4 l0_4.length c0_4]] w fun e w' => e = .returned (.bool r) ∧ Below w.heap.size w w' := by
 have hu38 := Tryz.underlying38
 have HR0_4 := Aside0.mk hr0_4
 have HC0_4 := Aside0.mk hc0_4
 clear hr0_4 hc0_4
 have HB := Aside0.mk (Below.refl w.heap.size w)
 have H : (if (a0_3.size : Int) > 2147483647 then (some false) else (if (l0_4.length : Int) > 2147483647 then (some false) else (some true))) = some r := h
 clear h
 by_cases c2 : (a0_3.size : Int) > 2147483647
 ·rw [if_pos c2] at H
  have c2b0 : decide (2147483647 < (a0_3.size : Int)) = true := decide_eq_true c2
  have c2b1 : decide (2147483647 < a0_3.size) = true := decide_eq_true (by omega)
  clear c2
  obtain rfl := Option.some.inj H
  go_enter Tryz.func17, Tryz.ntmps17
  go_wp2_with (first | ((with_reducible refine gate_dst (N := 1) rfl ?_); refine box_event ?hg (N := 1) ?hd (cs := #[.int .i64 a0_0, .int .i64 a0_1, .int .i64 a0_2, .string a0_3, .slice A0_4 l0_4.length c0_4]) (t := 38) ?hr ?_; (case hd => rfl); (case hg => rfl); (case hr => first | (go_simp; done) | (go_simp; rfl)); intro gb101 hg w3 hbox hb; have n0_ := Aside0.mk (below_step (by repeat (first | (with_reducible first | exact HB.out | apply below_alloc | apply pw_below_drewN | apply below_drew1) | exact HB.out)) hb); have n1_ := Aside0.mk (hbox); have n2_ := Aside0.mk ((by rw [hg]; exact (below_size (by repeat (first | (with_reducible first | exact HB.out | apply below_alloc | apply pw_below_drewN | apply below_drew1) | exact HB.out))) : w.heap.size ≤ gb101)); have n3_ := Aside0.mk ((by rw [hg]; exact (below_size (by repeat (first | (with_reducible first | exact HB.out | apply below_alloc | apply pw_below_drewN | apply below_drew1) | exact HB.out))) : w.heap.size ≤ gb101)); clear HB; have HB := n0_; have BK101 := n1_; have GW101 := n2_; have GE101 := n3_; clear n0_ n1_ n2_ n3_; clear hb hbox hg; have hcz4_0 : w3.cell? ⟨gb101, 0, none⟩ = some (.int .i64 a0_0) := (blk_cell BK101.out 0).trans rfl; have hcz4_1 : w3.cell? ⟨gb101, 1, none⟩ = some (.int .i64 a0_1) := (blk_cell BK101.out 1).trans rfl; have hcz4_2 : w3.cell? ⟨gb101, 2, none⟩ = some (.int .i64 a0_2) := (blk_cell BK101.out 2).trans rfl; have hcz4_3 : w3.cell? ⟨gb101, 3, none⟩ = some (.string a0_3) := (blk_cell BK101.out 3).trans rfl; have hcz4_4 : w3.cell? ⟨gb101, 4, none⟩ = some (.slice A0_4 l0_4.length c0_4) := (blk_cell BK101.out 4).trans rfl; have hfz4_0 := blk_frozen BK101.out 0; have hfz4_1 := blk_frozen BK101.out 1; have hfz4_2 := blk_frozen BK101.out 2; have hfz4_3 := blk_frozen BK101.out 3; have hfz4_4 := blk_frozen BK101.out 4))
  go_ret
  exact ⟨by first | rfl | (simp [errW_none, errW_some] <;> rfl) | (simp [*, errW_none, errW_some] <;> rfl), by repeat (first | (with_reducible first | exact HB.out | apply below_alloc | apply pw_below_drewN | apply below_drew1 | refine below_set ?_ GE101.out) | exact HB.out)⟩
 ·rw [if_neg c2] at H
  have c2b0 : decide (2147483647 < (a0_3.size : Int)) = false := decide_eq_false c2
  have c2b1 : decide (2147483647 < a0_3.size) = false := decide_eq_false (by omega)
  clear c2
  by_cases c5 : (l0_4.length : Int) > 2147483647
  ·rw [if_pos c5] at H
   have c5b0 : decide (2147483647 < (l0_4.length : Int)) = true := decide_eq_true c5
   have c5b1 : decide (2147483647 < l0_4.length) = true := decide_eq_true (by omega)
   clear c5
   obtain rfl := Option.some.inj H
   go_enter Tryz.func17, Tryz.ntmps17
   go_wp2_with (first | ((with_reducible refine gate_dst (N := 1) rfl ?_); refine box_event ?hg (N := 1) ?hd (cs := #[.int .i64 a0_0, .int .i64 a0_1, .int .i64 a0_2, .string a0_3, .slice A0_4 l0_4.length c0_4]) (t := 38) ?hr ?_; (case hd => rfl); (case hg => rfl); (case hr => first | (go_simp; done) | (go_simp; rfl)); intro gb101 hg w6 hbox hb; have n0_ := Aside0.mk (below_step (by repeat (first | (with_reducible first | exact HB.out | apply below_alloc | apply pw_below_drewN | apply below_drew1) | exact HB.out)) hb); have n1_ := Aside0.mk (hbox); have n2_ := Aside0.mk ((by rw [hg]; exact (below_size (by repeat (first | (with_reducible first | exact HB.out | apply below_alloc | apply pw_below_drewN | apply below_drew1) | exact HB.out))) : w.heap.size ≤ gb101)); have n3_ := Aside0.mk ((by rw [hg]; exact (below_size (by repeat (first | (with_reducible first | exact HB.out | apply below_alloc | apply pw_below_drewN | apply below_drew1) | exact HB.out))) : w.heap.size ≤ gb101)); clear HB; have HB := n0_; have BK101 := n1_; have GW101 := n2_; have GE101 := n3_; clear n0_ n1_ n2_ n3_; clear hb hbox hg; have hcz7_0 : w6.cell? ⟨gb101, 0, none⟩ = some (.int .i64 a0_0) := (blk_cell BK101.out 0).trans rfl; have hcz7_1 : w6.cell? ⟨gb101, 1, none⟩ = some (.int .i64 a0_1) := (blk_cell BK101.out 1).trans rfl; have hcz7_2 : w6.cell? ⟨gb101, 2, none⟩ = some (.int .i64 a0_2) := (blk_cell BK101.out 2).trans rfl; have hcz7_3 : w6.cell? ⟨gb101, 3, none⟩ = some (.string a0_3) := (blk_cell BK101.out 3).trans rfl; have hcz7_4 : w6.cell? ⟨gb101, 4, none⟩ = some (.slice A0_4 l0_4.length c0_4) := (blk_cell BK101.out 4).trans rfl; have hfz7_0 := blk_frozen BK101.out 0; have hfz7_1 := blk_frozen BK101.out 1; have hfz7_2 := blk_frozen BK101.out 2; have hfz7_3 := blk_frozen BK101.out 3; have hfz7_4 := blk_frozen BK101.out 4))
   go_ret
   exact ⟨by first | rfl | (simp [errW_none, errW_some] <;> rfl) | (simp [*, errW_none, errW_some] <;> rfl), by repeat (first | (with_reducible first | exact HB.out | apply below_alloc | apply pw_below_drewN | apply below_drew1 | refine below_set ?_ GE101.out) | exact HB.out)⟩
  ·rw [if_neg c5] at H
   have c5b0 : decide (2147483647 < (l0_4.length : Int)) = false := decide_eq_false c5
   have c5b1 : decide (2147483647 < l0_4.length) = false := decide_eq_false (by omega)
   clear c5
   obtain rfl := Option.some.inj H
   go_enter Tryz.func17, Tryz.ntmps17
   go_wp2_with (first | ((with_reducible refine gate_dst (N := 1) rfl ?_); refine box_event ?hg (N := 1) ?hd (cs := #[.int .i64 a0_0, .int .i64 a0_1, .int .i64 a0_2, .string a0_3, .slice A0_4 l0_4.length c0_4]) (t := 38) ?hr ?_; (case hd => rfl); (case hg => rfl); (case hr => first | (go_simp; done) | (go_simp; rfl)); intro gb101 hg w8 hbox hb; have n0_ := Aside0.mk (below_step (by repeat (first | (with_reducible first | exact HB.out | apply below_alloc | apply pw_below_drewN | apply below_drew1) | exact HB.out)) hb); have n1_ := Aside0.mk (hbox); have n2_ := Aside0.mk ((by rw [hg]; exact (below_size (by repeat (first | (with_reducible first | exact HB.out | apply below_alloc | apply pw_below_drewN | apply below_drew1) | exact HB.out))) : w.heap.size ≤ gb101)); have n3_ := Aside0.mk ((by rw [hg]; exact (below_size (by repeat (first | (with_reducible first | exact HB.out | apply below_alloc | apply pw_below_drewN | apply below_drew1) | exact HB.out))) : w.heap.size ≤ gb101)); clear HB; have HB := n0_; have BK101 := n1_; have GW101 := n2_; have GE101 := n3_; clear n0_ n1_ n2_ n3_; clear hb hbox hg; have hcz9_0 : w8.cell? ⟨gb101, 0, none⟩ = some (.int .i64 a0_0) := (blk_cell BK101.out 0).trans rfl; have hcz9_1 : w8.cell? ⟨gb101, 1, none⟩ = some (.int .i64 a0_1) := (blk_cell BK101.out 1).trans rfl; have hcz9_2 : w8.cell? ⟨gb101, 2, none⟩ = some (.int .i64 a0_2) := (blk_cell BK101.out 2).trans rfl; have hcz9_3 : w8.cell? ⟨gb101, 3, none⟩ = some (.string a0_3) := (blk_cell BK101.out 3).trans rfl; have hcz9_4 : w8.cell? ⟨gb101, 4, none⟩ = some (.slice A0_4 l0_4.length c0_4) := (blk_cell BK101.out 4).trans rfl; have hfz9_0 := blk_frozen BK101.out 0; have hfz9_1 := blk_frozen BK101.out 1; have hfz9_2 := blk_frozen BK101.out 2; have hfz9_3 := blk_frozen BK101.out 3; have hfz9_4 := blk_frozen BK101.out 4))
   go_ret
   exact ⟨by first | rfl | (simp [errW_none, errW_some] <;> rfl) | (simp [*, errW_none, errW_some] <;> rfl), by repeat (first | (with_reducible first | exact HB.out | apply below_alloc | apply pw_below_drewN | apply below_drew1 | refine below_set ?_ GE101.out) | exact HB.out)⟩
set_option maxHeartbeats 8000000 in
set_option maxRecDepth 100000 in
theorem laws_zzFits3.calls (k : Nat) (A0 : Option Addr) (c0 : Nat) (l0 : List (S38)) (r : Bool) (w : World) (hr0 : Kd.C k38 w A0 l0.length l0) (hc0 : l0.length ≤ c0) (h : laws_zzFits3.f k l0 = some r) :
  Calls Tryz.prog 4 #[.slice A0 l0.length c0] w fun e w' => e = .returned (.bool r) ∧ Below w.heap.size w w' := by
 have hu38 := Tryz.underlying38
 have HR0 := Aside0.mk hr0
 have HC0 := Aside0.mk hc0
 clear hr0 hc0
 have HB := Aside0.mk (Below.refl w.heap.size w)
 have H : (if (l0.length : Int) > 2147483647 then (some false) else (laws_zzFits3.l0 k l0 (l0.length : Int) 0)) = some r := h
 clear h
 by_cases c2 : (l0.length : Int) > 2147483647
 ·rw [if_pos c2] at H
  have c2b0 : decide (2147483647 < (l0.length : Int)) = true := decide_eq_true c2
  have c2b1 : decide (2147483647 < l0.length) = true := decide_eq_true (by omega)
  clear c2
  obtain rfl := Option.some.inj H
  go_enter Tryz.func4, Tryz.ntmps4
  go_wp2
  go_ret
  exact ⟨by first | rfl | (simp [errW_none, errW_some] <;> rfl) | (simp [*, errW_none, errW_some] <;> rfl), by repeat (first | (with_reducible first | exact HB.out | apply below_alloc | apply pw_below_drewN | apply below_drew1) | exact HB.out)⟩
 ·rw [if_neg c2] at H
  have c2b0 : decide (2147483647 < (l0.length : Int)) = false := decide_eq_false c2
  have c2b1 : decide (2147483647 < l0.length) = false := decide_eq_false (by omega)
  clear c2
  have H' := Aside0.mk H
  clear H
  go_enter Tryz.func4, Tryz.ntmps4
  go_wp2
  go_loopg [10] k (fun kq v10 w' => ∃ (x10_1 : Int), v10 = .int .i64 x10_1 ∧ Aside0 (laws_zzFits3.l0 kq l0 (l0.length : Int) x10_1 = some r) ∧ Aside0 (kq ≤ k) ∧ Aside0 (Below w.heap.size w w'))
  case atStart => exact ⟨(0), (by first | rfl | (simp; done) | (simp [*]; done)), H', ⟨Nat.le_refl _⟩, ⟨by repeat (first | (with_reducible first | exact HB.out | apply below_alloc | apply pw_below_drewN | apply below_drew1) | exact HB.out)⟩⟩
  case round =>
   clear H'
   try clear c2
   try clear c2b0
   try clear c2b1
   try clear p2
   obtain ⟨x10_1, rfl, HA, HK1, HB⟩ := hrel
   cases gk with
   | zero => exact absurd HA.out (by simp [laws_zzFits3.l0])
   | succ k1 =>
    have H := HA.out
    clear HA
    simp only [laws_zzFits3.l0] at H
    by_cases c3 : x10_1 < (l0.length : Int)
    ·rw [if_pos c3] at H
     have c3b0 : decide (x10_1 < (l0.length : Int)) = true := decide_eq_true c3
     clear c3
     by_cases c4 : 0 ≤ x10_1
     ·rw [if_pos c4] at H
      have c4b0 : decide (0 ≤ x10_1) = true := decide_eq_true c4
      clear c4
      by_cases c5 : x10_1 < (l0.length : Int)
      ·rw [if_pos c5] at H
       have c5b0 : decide (x10_1 < (l0.length : Int)) = true := decide_eq_true c5
       clear c5
       replace H := Option.bind_eq_some_iff.mp H
       obtain ⟨t104, A60, H⟩ := H
       replace H : (if t104 = true then (laws_zzFits3.l0 k1 l0 (l0.length : Int) (wrap64 (x10_1 + 1))) else (some false)) = some r := H
       have A6 := Aside0.mk A60
       clear A60
       by_cases c7 : t104 = true
       ·subst c7
        have H1 : (laws_zzFits3.l0 k1 l0 (l0.length : Int) (wrap64 (x10_1 + 1))) = some r := by rw [if_pos rfl] at H; exact H
        clear H
        have H := H1
        clear H1
        have H' := Aside0.mk H
        clear H
        have p102 : 0 ≤ (x10_1 : Int) := of_decide_eq_true (by first | (with_reducible assumption) | assumption)
        have q102 : x10_1 < (l0.length : Int) := of_decide_eq_true (by first | (with_reducible assumption) | assumption)
        obtain ⟨ad102, A102_4, c102_4, e102, hx102_0, hx102_1, hx102_2, hx102_3, hx102_4, hl102_4, hi102_4⟩ := at_T38 HR0.out x10_1 p102 q102
        cases e102
        replace hx102_0 := (HB.out.cell (World.block_lt_of_cell? w _ hx102_0)).trans hx102_0
        replace hx102_1 := (HB.out.cell (World.block_lt_of_cell? w _ hx102_1)).trans hx102_1
        replace hx102_2 := (HB.out.cell (World.block_lt_of_cell? w _ hx102_2)).trans hx102_2
        replace hx102_3 := (HB.out.cell (World.block_lt_of_cell? w _ hx102_3)).trans hx102_3
        replace hx102_4 := (HB.out.cell (World.block_lt_of_cell? w _ hx102_4)).trans hx102_4
        have HR102_4 := Aside0.mk hi102_4
        have HC102_4 := Aside0.mk hl102_4
        clear hi102_4 hl102_4
        replace p102 := eq_true p102
        replace q102 := eq_true q102
        go_wp2_with (first | ((with_reducible refine gate_dst (N := 4) rfl ?_); refine box_event ?hg (N := 4) ?hd (cs := #[.int .i64 0, .int .i64 0, .int .i64 0, .string (⟨#[]⟩ : ByteArray), .slice none 0 0]) (t := 38) ?hr ?_; (case hd => rfl); (case hg => rfl); (case hr => first | (go_simp; done) | (go_simp; rfl)); intro gb103 hg w8 hbox hb; have n0_ := Aside0.mk (below_step (by repeat (first | (with_reducible first | exact HB.out | apply below_alloc | apply pw_below_drewN | apply below_drew1) | exact HB.out)) hb); have n1_ := Aside0.mk (hbox); have n2_ := Aside0.mk ((by rw [hg]; exact (below_size (by repeat (first | (with_reducible first | exact HB.out | apply below_alloc | apply pw_below_drewN | apply below_drew1) | exact HB.out))) : w.heap.size ≤ gb103)); have n3_ := Aside0.mk ((by rw [hg]; exact (below_size (by repeat (first | (with_reducible first | exact HB.out | apply below_alloc | apply pw_below_drewN | apply below_drew1) | exact HB.out))) : w.heap.size ≤ gb103)); clear HB; have HB := n0_; have BK103 := n1_; have GW103 := n2_; have GE103 := n3_; clear n0_ n1_ n2_ n3_; clear hb hbox hg; have hcz9_0 : w8.cell? ⟨gb103, 0, none⟩ = some (.int .i64 0) := (blk_cell BK103.out 0).trans rfl; have hcz9_1 : w8.cell? ⟨gb103, 1, none⟩ = some (.int .i64 0) := (blk_cell BK103.out 1).trans rfl; have hcz9_2 : w8.cell? ⟨gb103, 2, none⟩ = some (.int .i64 0) := (blk_cell BK103.out 2).trans rfl; have hcz9_3 : w8.cell? ⟨gb103, 3, none⟩ = some (.string (⟨#[]⟩ : ByteArray)) := (blk_cell BK103.out 3).trans rfl; have hcz9_4 : w8.cell? ⟨gb103, 4, none⟩ = some (.slice none 0 0) := (blk_cell BK103.out 4).trans rfl; have hfz9_0 := blk_frozen BK103.out 0; have hfz9_1 := blk_frozen BK103.out 1; have hfz9_2 := blk_frozen BK103.out 2; have hfz9_3 := blk_frozen BK103.out 3; have hfz9_4 := blk_frozen BK103.out 4) | ((with_reducible refine gate_callee (f := 17) rfl ?_); refine goesL_ (some 15) rfl rfl Tryz.func17 (by kernel_rfl) rfl #[.agg #[.int .i64 ((rd_T38 l0 x10_1).f0), .int .i64 ((rd_T38 l0 x10_1).f1), .int .i64 ((rd_T38 l0 x10_1).f2), .string ((rd_T38 l0 x10_1).f3), .slice A102_4 ((rd_T38 l0 x10_1).f4).length c102_4]] rfl (by (try simp only [List.map_toArray, List.map_cons, List.map_nil]); first | done | rfl | (simp only [List.length_drop, List.length_take]; rfl)) ?_; (with_reducible refine (laws_zzFits4.calls ((rd_T38 l0 x10_1).f0) ((rd_T38 l0 x10_1).f1) ((rd_T38 l0 x10_1).f2) ((rd_T38 l0 x10_1).f3) _ _ ((rd_T38 l0 x10_1).f4) true _ ?side1 ?side2 A6.out).mono ?_); (case side1 => exact Kd.C_below HR102_4.out (by repeat (first | (with_reducible first | exact HB.out | apply below_alloc | apply pw_below_drewN | apply below_drew1 | refine below_set ?_ GE103.out) | exact HB.out))); (case side2 => exact HC102_4.out); rintro e w10 ⟨rfl, hb⟩; refine ⟨_, rfl, ?_⟩; have n0_ := Aside0.mk (blk_below (g := gb103) (o := .cells #[.int .i64 ((rd_T38 l0 x10_1).f0), .int .i64 ((rd_T38 l0 x10_1).f1), .int .i64 ((rd_T38 l0 x10_1).f2), .string ((rd_T38 l0 x10_1).f3), .slice A102_4 ((rd_T38 l0 x10_1).f4).length c102_4] 38 (0, 0)) (by (with_reducible repeat (first | refine blk_drewN ?_ _ | refine blk_drew ?_ | refine blk_alloc ?_ _)); refine blk_put (cs := #[.int .i64 ((rd_T38 l0 x10_1).f0), .int .i64 ((rd_T38 l0 x10_1).f1), .int .i64 ((rd_T38 l0 x10_1).f2), .string ((rd_T38 l0 x10_1).f3), .slice none 0 0]) ?_ 4 _ rfl; (with_reducible repeat (first | refine blk_drewN ?_ _ | refine blk_drew ?_ | refine blk_alloc ?_ _)); refine blk_put (cs := #[.int .i64 ((rd_T38 l0 x10_1).f0), .int .i64 ((rd_T38 l0 x10_1).f1), .int .i64 ((rd_T38 l0 x10_1).f2), .string (⟨#[]⟩ : ByteArray), .slice none 0 0]) ?_ 3 _ rfl; (with_reducible repeat (first | refine blk_drewN ?_ _ | refine blk_drew ?_ | refine blk_alloc ?_ _)); refine blk_put (cs := #[.int .i64 ((rd_T38 l0 x10_1).f0), .int .i64 ((rd_T38 l0 x10_1).f1), .int .i64 0, .string (⟨#[]⟩ : ByteArray), .slice none 0 0]) ?_ 2 _ rfl; (with_reducible repeat (first | refine blk_drewN ?_ _ | refine blk_drew ?_ | refine blk_alloc ?_ _)); refine blk_put (cs := #[.int .i64 ((rd_T38 l0 x10_1).f0), .int .i64 0, .int .i64 0, .string (⟨#[]⟩ : ByteArray), .slice none 0 0]) ?_ 1 _ rfl; (with_reducible repeat (first | refine blk_drewN ?_ _ | refine blk_drew ?_ | refine blk_alloc ?_ _)); refine blk_put (cs := #[.int .i64 0, .int .i64 0, .int .i64 0, .string (⟨#[]⟩ : ByteArray), .slice none 0 0]) ?_ 0 _ rfl; (with_reducible repeat (first | refine blk_drewN ?_ _ | refine blk_drew ?_ | refine blk_alloc ?_ _)); exact BK103.out) hb); have n1_ := Aside0.mk (below_step (by repeat (first | (with_reducible first | exact HB.out | apply below_alloc | apply pw_below_drewN | apply below_drew1 | refine below_set ?_ GE103.out) | exact HB.out)) hb); clear BK103; clear HB; have BK103 := n0_; have HB := n1_; clear n0_ n1_; (try clear hb); (try clear hb2); (try clear hk); (try clear hi)))
        go_roundg k1
        case measure => have := HK1.out; omega
        case rel => exact ⟨(wrap64 (x10_1 + 1)), (by first | rfl | (simp; done) | (simp [*]; done)), H', ⟨by have := HK1.out; omega⟩, ⟨by repeat (first | (with_reducible first | exact HB.out | apply below_alloc | apply pw_below_drewN | apply below_drew1 | refine below_set ?_ GE103.out) | exact HB.out)⟩⟩
       ·replace c7 := Bool.eq_false_iff.mpr c7
        subst c7
        have H1 : (some false) = some r := by rw [if_neg (show ¬ (false = true) by decide)] at H; exact H
        clear H
        have H := H1
        clear H1
        obtain rfl := Option.some.inj H
        have p102 : 0 ≤ (x10_1 : Int) := of_decide_eq_true (by first | (with_reducible assumption) | assumption)
        have q102 : x10_1 < (l0.length : Int) := of_decide_eq_true (by first | (with_reducible assumption) | assumption)
        obtain ⟨ad102, A102_4, c102_4, e102, hx102_0, hx102_1, hx102_2, hx102_3, hx102_4, hl102_4, hi102_4⟩ := at_T38 HR0.out x10_1 p102 q102
        cases e102
        replace hx102_0 := (HB.out.cell (World.block_lt_of_cell? w _ hx102_0)).trans hx102_0
        replace hx102_1 := (HB.out.cell (World.block_lt_of_cell? w _ hx102_1)).trans hx102_1
        replace hx102_2 := (HB.out.cell (World.block_lt_of_cell? w _ hx102_2)).trans hx102_2
        replace hx102_3 := (HB.out.cell (World.block_lt_of_cell? w _ hx102_3)).trans hx102_3
        replace hx102_4 := (HB.out.cell (World.block_lt_of_cell? w _ hx102_4)).trans hx102_4
        have HR102_4 := Aside0.mk hi102_4
        have HC102_4 := Aside0.mk hl102_4
        clear hi102_4 hl102_4
        replace p102 := eq_true p102
        replace q102 := eq_true q102
        go_wp2_with (first | ((with_reducible refine gate_dst (N := 4) rfl ?_); refine box_event ?hg (N := 4) ?hd (cs := #[.int .i64 0, .int .i64 0, .int .i64 0, .string (⟨#[]⟩ : ByteArray), .slice none 0 0]) (t := 38) ?hr ?_; (case hd => rfl); (case hg => rfl); (case hr => first | (go_simp; done) | (go_simp; rfl)); intro gb103 hg w11 hbox hb; have n0_ := Aside0.mk (below_step (by repeat (first | (with_reducible first | exact HB.out | apply below_alloc | apply pw_below_drewN | apply below_drew1) | exact HB.out)) hb); have n1_ := Aside0.mk (hbox); have n2_ := Aside0.mk ((by rw [hg]; exact (below_size (by repeat (first | (with_reducible first | exact HB.out | apply below_alloc | apply pw_below_drewN | apply below_drew1) | exact HB.out))) : w.heap.size ≤ gb103)); have n3_ := Aside0.mk ((by rw [hg]; exact (below_size (by repeat (first | (with_reducible first | exact HB.out | apply below_alloc | apply pw_below_drewN | apply below_drew1) | exact HB.out))) : w.heap.size ≤ gb103)); clear HB; have HB := n0_; have BK103 := n1_; have GW103 := n2_; have GE103 := n3_; clear n0_ n1_ n2_ n3_; clear hb hbox hg; have hcz12_0 : w11.cell? ⟨gb103, 0, none⟩ = some (.int .i64 0) := (blk_cell BK103.out 0).trans rfl; have hcz12_1 : w11.cell? ⟨gb103, 1, none⟩ = some (.int .i64 0) := (blk_cell BK103.out 1).trans rfl; have hcz12_2 : w11.cell? ⟨gb103, 2, none⟩ = some (.int .i64 0) := (blk_cell BK103.out 2).trans rfl; have hcz12_3 : w11.cell? ⟨gb103, 3, none⟩ = some (.string (⟨#[]⟩ : ByteArray)) := (blk_cell BK103.out 3).trans rfl; have hcz12_4 : w11.cell? ⟨gb103, 4, none⟩ = some (.slice none 0 0) := (blk_cell BK103.out 4).trans rfl; have hfz12_0 := blk_frozen BK103.out 0; have hfz12_1 := blk_frozen BK103.out 1; have hfz12_2 := blk_frozen BK103.out 2; have hfz12_3 := blk_frozen BK103.out 3; have hfz12_4 := blk_frozen BK103.out 4) | ((with_reducible refine gate_callee (f := 17) rfl ?_); refine goesL_ (some 15) rfl rfl Tryz.func17 (by kernel_rfl) rfl #[.agg #[.int .i64 ((rd_T38 l0 x10_1).f0), .int .i64 ((rd_T38 l0 x10_1).f1), .int .i64 ((rd_T38 l0 x10_1).f2), .string ((rd_T38 l0 x10_1).f3), .slice A102_4 ((rd_T38 l0 x10_1).f4).length c102_4]] rfl (by (try simp only [List.map_toArray, List.map_cons, List.map_nil]); first | done | rfl | (simp only [List.length_drop, List.length_take]; rfl)) ?_; (with_reducible refine (laws_zzFits4.calls ((rd_T38 l0 x10_1).f0) ((rd_T38 l0 x10_1).f1) ((rd_T38 l0 x10_1).f2) ((rd_T38 l0 x10_1).f3) _ _ ((rd_T38 l0 x10_1).f4) false _ ?side1 ?side2 A6.out).mono ?_); (case side1 => exact Kd.C_below HR102_4.out (by repeat (first | (with_reducible first | exact HB.out | apply below_alloc | apply pw_below_drewN | apply below_drew1 | refine below_set ?_ GE103.out) | exact HB.out))); (case side2 => exact HC102_4.out); rintro e w13 ⟨rfl, hb⟩; refine ⟨_, rfl, ?_⟩; have n0_ := Aside0.mk (blk_below (g := gb103) (o := .cells #[.int .i64 ((rd_T38 l0 x10_1).f0), .int .i64 ((rd_T38 l0 x10_1).f1), .int .i64 ((rd_T38 l0 x10_1).f2), .string ((rd_T38 l0 x10_1).f3), .slice A102_4 ((rd_T38 l0 x10_1).f4).length c102_4] 38 (0, 0)) (by (with_reducible repeat (first | refine blk_drewN ?_ _ | refine blk_drew ?_ | refine blk_alloc ?_ _)); refine blk_put (cs := #[.int .i64 ((rd_T38 l0 x10_1).f0), .int .i64 ((rd_T38 l0 x10_1).f1), .int .i64 ((rd_T38 l0 x10_1).f2), .string ((rd_T38 l0 x10_1).f3), .slice none 0 0]) ?_ 4 _ rfl; (with_reducible repeat (first | refine blk_drewN ?_ _ | refine blk_drew ?_ | refine blk_alloc ?_ _)); refine blk_put (cs := #[.int .i64 ((rd_T38 l0 x10_1).f0), .int .i64 ((rd_T38 l0 x10_1).f1), .int .i64 ((rd_T38 l0 x10_1).f2), .string (⟨#[]⟩ : ByteArray), .slice none 0 0]) ?_ 3 _ rfl; (with_reducible repeat (first | refine blk_drewN ?_ _ | refine blk_drew ?_ | refine blk_alloc ?_ _)); refine blk_put (cs := #[.int .i64 ((rd_T38 l0 x10_1).f0), .int .i64 ((rd_T38 l0 x10_1).f1), .int .i64 0, .string (⟨#[]⟩ : ByteArray), .slice none 0 0]) ?_ 2 _ rfl; (with_reducible repeat (first | refine blk_drewN ?_ _ | refine blk_drew ?_ | refine blk_alloc ?_ _)); refine blk_put (cs := #[.int .i64 ((rd_T38 l0 x10_1).f0), .int .i64 0, .int .i64 0, .string (⟨#[]⟩ : ByteArray), .slice none 0 0]) ?_ 1 _ rfl; (with_reducible repeat (first | refine blk_drewN ?_ _ | refine blk_drew ?_ | refine blk_alloc ?_ _)); refine blk_put (cs := #[.int .i64 0, .int .i64 0, .int .i64 0, .string (⟨#[]⟩ : ByteArray), .slice none 0 0]) ?_ 0 _ rfl; (with_reducible repeat (first | refine blk_drewN ?_ _ | refine blk_drew ?_ | refine blk_alloc ?_ _)); exact BK103.out) hb); have n1_ := Aside0.mk (below_step (by repeat (first | (with_reducible first | exact HB.out | apply below_alloc | apply pw_below_drewN | apply below_drew1 | refine below_set ?_ GE103.out) | exact HB.out)) hb); clear BK103; clear HB; have BK103 := n0_; have HB := n1_; clear n0_ n1_; (try clear hb); (try clear hb2); (try clear hk); (try clear hi)))
        go_ret
        exact ⟨by first | rfl | (simp [errW_none, errW_some] <;> rfl) | (simp [*, errW_none, errW_some] <;> rfl), by repeat (first | (with_reducible first | exact HB.out | apply below_alloc | apply pw_below_drewN | apply below_drew1 | refine below_set ?_ GE103.out) | exact HB.out)⟩
      ·rw [if_neg c5] at H
       exact absurd H (by simp)
     ·rw [if_neg c4] at H
      exact absurd H (by simp)
    ·rw [if_neg c3] at H
     have c3b0 : decide (x10_1 < (l0.length : Int)) = false := decide_eq_false c3
     clear c3
     obtain rfl := Option.some.inj H
     go_wp2
     go_ret
     exact ⟨by first | rfl | (simp [errW_none, errW_some] <;> rfl) | (simp [*, errW_none, errW_some] <;> rfl), by repeat (first | (with_reducible first | exact HB.out | apply below_alloc | apply pw_below_drewN | apply below_drew1) | exact HB.out)⟩
end Go.Proofs.YteebhoehflgfoaaGreatDoor.Y
end
