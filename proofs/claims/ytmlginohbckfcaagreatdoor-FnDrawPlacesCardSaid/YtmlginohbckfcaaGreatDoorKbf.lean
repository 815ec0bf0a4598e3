/- Texts of this claim, joined: Y15 XScrScreen XScrSame Y20. Of each, what the claim uses. -/
import Derived.Test.YtmlginohbckfcaaGreatDoorKac
import Derived.Test.YtmlginohbckfcaaGreatDoorKat
import Derived.Test.YtmlginohbckfcaaGreatDoorKbd
import Derived.Test.YtmlginohbckfcaaGreatDoorKbe
import Derived.Test.YtmlginohbckfcaaGreatDoorKax
import Derived.Test.YtmlginohbckfcaaGreatDoorKaz
import Derived.Deep.LoopGhost
import Derived.StillTailTactics
section
namespace Go.Proofs.YtmlginohbckfcaaGreatDoor.Y
open Go.RowKit Go.Proofs.YtmlginohbckfcaaGreatDoorW.PrintWords Go.Proofs.YtmlginohbckfcaaGreatDoorW.PrintLast Go.Proofs.YtmlginohbckfcaaGreatDoorW.PrintMore
attribute [local go_sem] max2_int min2_int max_two min_two max_three min_three max_four min_four   -- for this text's walks alone
set_option linter.unusedVariables false
set_option linter.unusedSimpArgs false
set_option maxHeartbeats 8000000 in
set_option maxRecDepth 100000 in
theorem laws_drawEvents.calls (k : Nat) (P0_ : Nat → Prop) (A0 : Option Addr) (c0 : Nat) (l0 : List (S69)) (r : List (S77)) (w : World) (hs0 : Kd.V k69 69 w w.heap.size (fun k_ => P0_ k_) (.slice A0 l0.length c0) l0) (h : laws_drawEvents.f k l0 = some r) :
    Calls Tryz.prog 63 #[.slice A0 l0.length c0] w fun e w' => ∃ v0_ : Value, e = .returned (v0_) ∧ Kd.N k77 77 w' w.heap.size (fun k_ => (P0_ k_ ∨ w.heap.size ≤ k_)) v0_ r ∧ Below w.heap.size w w' := by
  have hu69 := Tryz.underlying69
  have HO0 := Aside0.mk (show Kd.V k69 69 w w.heap.size (fun k_ => (P0_ k_ ∨ w.heap.size ≤ k_)) (.slice A0 l0.length c0) l0 from Kd.V_mono hs0 (fun k_ hk => .inl hk))
  have HB := Aside0.mk (Below.refl w.heap.size w)
  have H : (laws_drawEvents.l0 k ([] : List (S77)) l0 (l0.length : Int) 0) = some r := h
  clear h
  have H' := Aside0.mk H
  clear H
  go_enter Tryz.func63, Tryz.ntmps63
  go_wp2
  go_loopg [3, 8] k (fun kq v3 v8 w' => ∃ (x3_1 : List (S77)) (x8_1 : Int), v8 = .int .i64 x8_1 ∧ Aside0 (laws_drawEvents.l0 kq x3_1 l0 (l0.length : Int) x8_1 = some r) ∧ Aside0 (kq ≤ k) ∧ Aside0 (Kd.N k77 77 w' w.heap.size (fun k_ => (P0_ k_ ∨ w.heap.size ≤ k_)) v3 x3_1) ∧ Aside0 (Kd.V k69 69 w' w.heap.size (fun k_ => (P0_ k_ ∨ w.heap.size ≤ k_) ∧ some k_ ≠ (v3 : Value).ownBlock) (.slice A0 l0.length c0) l0) ∧ Aside0 (Below w.heap.size w w'))
  case atStart => exact ⟨(([] : List (S77))), (0), (by first | rfl | (simp; done) | (simp [*]; done)), H', ⟨Nat.le_refl _⟩, ⟨by first | exact Kd.S_nil _ _ _ _ _ | exact Kd.N_nil _ _ _ _ _ | exact Kd.V_nil _ _ _ _ _ | exact Kd.Q_nil _ _ _ _ _ | exact Kd.R_nil _ _ _ _ _⟩, ⟨by (with_reducible repeat (first | apply Kd.V_alloc | apply Kd.V_drewN | apply Kd.V_drew)); exact Kd.V_mono HO0.out (fun _ hk => ⟨hk, (by simp [Value.ownBlock])⟩)⟩, ⟨by repeat (first | (with_reducible first | exact HB.out | apply below_alloc | apply pw_below_drewN | apply below_drew1) | exact HB.out)⟩⟩
  case round =>
    clear H'
    obtain ⟨x3_1, x8_1, rfl, HA, HK1, HO_3, HO_6, HB⟩ := hrel
    cases gk with
    | zero => exact absurd HA.out (by simp [laws_drawEvents.l0])
    | succ k1 =>
      have H := HA.out
      clear HA
      simp only [laws_drawEvents.l0] at H
      by_cases c2 : x8_1 < (l0.length : Int)
      · rw [if_pos c2] at H
        have c2b0 : decide (x8_1 < (l0.length : Int)) = true := decide_eq_true c2
        clear c2
        by_cases c3 : 0 ≤ x8_1
        · rw [if_pos c3] at H
          have c3b0 : decide (0 ≤ x8_1) = true := decide_eq_true c3
          clear c3
          by_cases c4 : x8_1 < (l0.length : Int)
          · rw [if_pos c4] at H
            have c4b0 : decide (x8_1 < (l0.length : Int)) = true := decide_eq_true c4
            clear c4
            by_cases c5 : x3_1.length < 1759218604441
            · rw [if_pos c5] at H
              have LMc5 := Aside0.mk c5
              clear c5
              obtain ⟨y269, hy269⟩ : ∃ y_ : List (S77), y_ = (x3_1 ++ [(⟨(rd_T69 l0 x8_1).f0, (rd_T69 l0 x8_1).f1, (rd_T69 l0 x8_1).f2, (rd_T69 l0 x8_1).f3, (rd_T69 l0 x8_1).f4, (rd_T69 l0 x8_1).f5⟩ : S77)]) := ⟨_, rfl⟩
              replace H : (laws_drawEvents.l0 k1 y269 l0 (l0.length : Int) (wrap64 (x8_1 + 1))) = some r := by first | (rw [hy269]; with_reducible exact H) | (have H2_ := (Option.bind_some _ _).symm.trans H; rw [hy269]; with_reducible exact H2_) | (have H2_ := (Option.bind_some _ _).symm.trans H; with_reducible exact H2_) | with_reducible exact H | (rw [hy269]; exact H) | exact H
              have Ny269 := Aside0.mk hy269
              clear hy269
              have H' := Aside0.mk H
              clear H
              have p267 : 0 ≤ (x8_1 : Int) := of_decide_eq_true (by first | (with_reducible assumption) | assumption)
              have q267 : x8_1 < (l0.length : Int) := of_decide_eq_true (by first | (with_reducible assumption) | assumption)
              obtain ⟨ad267, A267_4, c267_4, A267_5, c267_5, e267, hx267_0, hx267_1, hx267_2, hx267_3, hx267_4, hx267_5, hl267_4, hi267_4, hl267_5, hi267_5⟩ := at_T69 (Kd.V_reads' HO_6.out).2.2 x8_1 p267 q267
              cases e267
              obtain ⟨ce267, hce267, hMe267, hcc267⟩ := Kd.V_get HO_6.out z69 x8_1 p267 (by first | exact q267 | exact of_decide_eq_true (by first | (with_reducible assumption) | assumption) | (have e_ := (Kd.V_reads' HO_6.out).1; omega))
              obtain ⟨ua267_4, uc267_4, ua267_5, uc267_5, rfl, ul267_4, ge267_4, ul267_5, ge267_5⟩ := k69_openF hMe267
              have hv267_4 := hcc267 4 _ rfl
              rw [add_field _ _ 4 (by omega)] at hv267_4
              replace hv267_4 := Option.some.inj (hv267_4.symm.trans hx267_4)
              injection hv267_4 with hva_ hvn_ hvc_
              rw [hva_] at ge267_4
              rw [hvc_] at ul267_4
              have HL267_4 := Aside0.mk (show Kd.V (Kd.int .i64) 2 _ w.heap.size _ _ ((rd_T69 l0 x8_1).f4) from Kd.V_mk ul267_4 ge267_4)
              clear hva_ hvn_ hvc_ ge267_4 ul267_4
              have hv267_5 := hcc267 5 _ rfl
              rw [add_field _ _ 5 (by omega)] at hv267_5
              replace hv267_5 := Option.some.inj (hv267_5.symm.trans hx267_5)
              injection hv267_5 with hva_ hvn_ hvc_
              rw [hva_] at ge267_5
              rw [hvc_] at ul267_5
              have HL267_5 := Aside0.mk (show Kd.V (Kd.int .u8) 5 _ w.heap.size _ _ ((rd_T69 l0 x8_1).f5) from Kd.V_mk ul267_5 ge267_5)
              clear hva_ hvn_ hvc_ ge267_5 ul267_5
              clear hcc267 hce267
              have HR267_4 := Aside0.mk hi267_4
              have HC267_4 := Aside0.mk hl267_4
              clear hi267_4 hl267_4
              have HR267_5 := Aside0.mk hi267_5
              have HC267_5 := Aside0.mk hl267_5
              clear hi267_5 hl267_5
              replace p267 := eq_true p267
              replace q267 := eq_true q267
              go_wp2_with (first | ((with_reducible refine gate_dst (N := 5) rfl ?_); refine box_event ?hg (N := 5) ?hd (cs := #[.int .i64 0, .int .i64 0, .int .u8 0, .int .i64 0, .slice none 0 0, .slice none 0 0]) (t := 69) ?hr ?_; (case hd => rfl); (case hg => rfl); (case hr => first | (go_simp; done) | (go_simp; rfl)); intro gb268 hg w6 hbox hb; have n0_ := Aside0.mk (Kd.N_below (Kd.N_elderB (by (with_reducible repeat (first | apply Kd.N_alloc | apply Kd.N_drewN | apply Kd.N_drew)); exact HO_3.out) gb268 (Nat.le_of_eq hg.symm)) hb); have n1_ := Aside0.mk (Kd.V_below (Kd.V_elderB (by (with_reducible repeat (first | apply Kd.V_alloc | apply Kd.V_drewN | apply Kd.V_drew)); exact HO_6.out) gb268 (Nat.le_of_eq hg.symm)) hb); have n2_ := Aside0.mk (Kd.V_below (Kd.V_elderB (by (with_reducible repeat (first | apply Kd.V_alloc | apply Kd.V_drewN | apply Kd.V_drew)); exact HL267_4.out) gb268 (Nat.le_of_eq hg.symm)) hb); have n3_ := Aside0.mk (Kd.V_below (Kd.V_elderB (by (with_reducible repeat (first | apply Kd.V_alloc | apply Kd.V_drewN | apply Kd.V_drew)); exact HL267_5.out) gb268 (Nat.le_of_eq hg.symm)) hb); have n4_ := Aside0.mk (Kd.C_below (by repeat (first | (with_reducible exact HR267_4.out) | (with_reducible refine Kd.C_alloc ?_ _) | (with_reducible refine Kd.C_drewN ?_ _) | (with_reducible refine Kd.C_drew ?_) | exact HR267_4.out)) hb); have n5_ := Aside0.mk (Kd.C_below (by repeat (first | (with_reducible exact HR267_5.out) | (with_reducible refine Kd.C_alloc ?_ _) | (with_reducible refine Kd.C_drewN ?_ _) | (with_reducible refine Kd.C_drew ?_) | exact HR267_5.out)) hb); have n6_ := Aside0.mk (below_step (by repeat (first | (with_reducible first | exact HB.out | apply below_alloc | apply pw_below_drewN | apply below_drew1) | exact HB.out)) hb); have n7_ := Aside0.mk (hbox); have n8_ := Aside0.mk ((by rw [hg]; exact (below_size (by repeat (first | (with_reducible first | exact HB.out | apply below_alloc | apply pw_below_drewN | apply below_drew1) | exact HB.out))) : w.heap.size ≤ gb268)); have n9_ := Aside0.mk ((by rw [hg]; exact (below_size (by repeat (first | (with_reducible first | exact HB.out | apply below_alloc | apply pw_below_drewN | apply below_drew1) | exact HB.out))) : w.heap.size ≤ gb268)); clear HO_3; clear HO_6; clear HL267_4; clear HL267_5; clear HR267_4; clear HR267_5; clear HB; have HO_3 := n0_; have HO_6 := n1_; have HL267_4 := n2_; have HL267_5 := n3_; have HR267_4 := n4_; have HR267_5 := n5_; have HB := n6_; have BK268 := n7_; have GW268 := n8_; have GE268 := n9_; clear n0_ n1_ n2_ n3_ n4_ n5_ n6_ n7_ n8_ n9_; clear hb hbox hg; have hcz7_0 : w6.cell? ⟨gb268, 0, none⟩ = some (.int .i64 0) := (blk_cell BK268.out 0).trans rfl; have hcz7_1 : w6.cell? ⟨gb268, 1, none⟩ = some (.int .i64 0) := (blk_cell BK268.out 1).trans rfl; have hcz7_2 : w6.cell? ⟨gb268, 2, none⟩ = some (.int .u8 0) := (blk_cell BK268.out 2).trans rfl; have hcz7_3 : w6.cell? ⟨gb268, 3, none⟩ = some (.int .i64 0) := (blk_cell BK268.out 3).trans rfl; have hcz7_4 : w6.cell? ⟨gb268, 4, none⟩ = some (.slice none 0 0) := (blk_cell BK268.out 4).trans rfl; have hcz7_5 : w6.cell? ⟨gb268, 5, none⟩ = some (.slice none 0 0) := (blk_cell BK268.out 5).trans rfl; have hfz7_0 := blk_frozen BK268.out 0; have hfz7_1 := blk_frozen BK268.out 1; have hfz7_2 := blk_frozen BK268.out 2; have hfz7_3 := blk_frozen BK268.out 3; have hfz7_4 := blk_frozen BK268.out 4; have hfz7_5 := blk_frozen BK268.out 5) | ((with_reducible refine gate_store (t := 69) (p := 5) rfl ?_); refine store_event (t := 69) (p := 5) (v := ?vo_w8) (w1 := ((((((w6.setCell ⟨gb268, 0, none⟩ (.int .i64 ((rd_T69 l0 x8_1).f0))).setCell ⟨gb268, 1, none⟩ (.int .i64 ((rd_T69 l0 x8_1).f1))).setCell ⟨gb268, 2, none⟩ (.int .u8 ((rd_T69 l0 x8_1).f2))).setCell ⟨gb268, 3, none⟩ (.int .i64 ((rd_T69 l0 x8_1).f3))).setCell ⟨gb268, 4, none⟩ (.slice A267_4 ((rd_T69 l0 x8_1).f4).length c267_4)).setCell ⟨gb268, 5, none⟩ (.slice A267_5 ((rd_T69 l0 x8_1).f5).length c267_5))) ?hg ?ho ?hn ?hr ?_; (case ho => rfl); (case hg => rfl); (case hn => rfl); (case hr => first | (go_simp; done) | (go_simp; rfl)); intro w8 hw; have n0_ : Aside0 (Kd.N k77 77 w8 w.heap.size (fun k_ => (P0_ k_ ∨ w.heap.size ≤ k_) ∧ k_ ≠ gb268) u3 x3_1) := ⟨(by rw [hw]; exact (by (with_reducible repeat (first | apply Kd.N_alloc | apply Kd.N_drewN | apply Kd.N_drew)); exact Kd.N_mono (Kd.N_far (p := ⟨gb268, 5, none⟩) (Kd.N_far (p := ⟨gb268, 4, none⟩) (Kd.N_far (p := ⟨gb268, 3, none⟩) (Kd.N_far (p := ⟨gb268, 2, none⟩) (Kd.N_far (p := ⟨gb268, 1, none⟩) (Kd.N_far (p := ⟨gb268, 0, none⟩) (Kd.N_mono HO_3.out (fun k_ hk => (⟨hk, hk.2⟩ : _ ∧ k_ ≠ gb268))) (fun _ hk => hk.2) (.int .i64 ((rd_T69 l0 x8_1).f0))) (fun _ hk => hk.2) (.int .i64 ((rd_T69 l0 x8_1).f1))) (fun _ hk => hk.2) (.int .u8 ((rd_T69 l0 x8_1).f2))) (fun _ hk => hk.2) (.int .i64 ((rd_T69 l0 x8_1).f3))) (fun _ hk => hk.2) (.slice A267_4 ((rd_T69 l0 x8_1).f4).length c267_4)) (fun _ hk => hk.2) (.slice A267_5 ((rd_T69 l0 x8_1).f5).length c267_5)) (fun _ hk => ⟨hk.1.1, hk.1.2⟩)))⟩; have n1_ : Aside0 (Kd.V k69 69 w8 w.heap.size (fun k_ => (P0_ k_ ∨ w.heap.size ≤ k_) ∧ some k_ ≠ (u3 : Value).ownBlock ∧ k_ ≠ gb268) (.slice (some ad267) l0.length c0) l0) := ⟨(by rw [hw]; exact (by (with_reducible repeat (first | apply Kd.V_alloc | apply Kd.V_drewN | apply Kd.V_drew)); exact Kd.V_mono (Kd.V_far (p := ⟨gb268, 5, none⟩) (Kd.V_far (p := ⟨gb268, 4, none⟩) (Kd.V_far (p := ⟨gb268, 3, none⟩) (Kd.V_far (p := ⟨gb268, 2, none⟩) (Kd.V_far (p := ⟨gb268, 1, none⟩) (Kd.V_far (p := ⟨gb268, 0, none⟩) (Kd.V_mono HO_6.out (fun k_ hk => (⟨hk, hk.2⟩ : _ ∧ k_ ≠ gb268))) (fun _ hk => hk.2) (.int .i64 ((rd_T69 l0 x8_1).f0))) (fun _ hk => hk.2) (.int .i64 ((rd_T69 l0 x8_1).f1))) (fun _ hk => hk.2) (.int .u8 ((rd_T69 l0 x8_1).f2))) (fun _ hk => hk.2) (.int .i64 ((rd_T69 l0 x8_1).f3))) (fun _ hk => hk.2) (.slice A267_4 ((rd_T69 l0 x8_1).f4).length c267_4)) (fun _ hk => hk.2) (.slice A267_5 ((rd_T69 l0 x8_1).f5).length c267_5)) (fun _ hk => ⟨hk.1.1.1, ⟨hk.1.1.2, hk.1.2⟩⟩)))⟩; have n2_ : Aside0 (Kd.V (Kd.int .i64) 2 w8 w.heap.size (fun k_ => (P0_ k_ ∨ w.heap.size ≤ k_) ∧ some k_ ≠ (u3 : Value).ownBlock ∧ k_ ≠ gb268) (.slice A267_4 ((rd_T69 l0 x8_1).f4).length c267_4) ((rd_T69 l0 x8_1).f4)) := ⟨(by rw [hw]; exact (by (with_reducible repeat (first | apply Kd.V_alloc | apply Kd.V_drewN | apply Kd.V_drew)); exact Kd.V_mono (Kd.V_far (p := ⟨gb268, 5, none⟩) (Kd.V_far (p := ⟨gb268, 4, none⟩) (Kd.V_far (p := ⟨gb268, 3, none⟩) (Kd.V_far (p := ⟨gb268, 2, none⟩) (Kd.V_far (p := ⟨gb268, 1, none⟩) (Kd.V_far (p := ⟨gb268, 0, none⟩) (Kd.V_mono HL267_4.out (fun k_ hk => (⟨hk, hk.2⟩ : _ ∧ k_ ≠ gb268))) (fun _ hk => hk.2) (.int .i64 ((rd_T69 l0 x8_1).f0))) (fun _ hk => hk.2) (.int .i64 ((rd_T69 l0 x8_1).f1))) (fun _ hk => hk.2) (.int .u8 ((rd_T69 l0 x8_1).f2))) (fun _ hk => hk.2) (.int .i64 ((rd_T69 l0 x8_1).f3))) (fun _ hk => hk.2) (.slice A267_4 ((rd_T69 l0 x8_1).f4).length c267_4)) (fun _ hk => hk.2) (.slice A267_5 ((rd_T69 l0 x8_1).f5).length c267_5)) (fun _ hk => ⟨hk.1.1.1, ⟨hk.1.1.2, hk.1.2⟩⟩)))⟩; have n3_ : Aside0 (Kd.V (Kd.int .u8) 5 w8 w.heap.size (fun k_ => (P0_ k_ ∨ w.heap.size ≤ k_) ∧ some k_ ≠ (u3 : Value).ownBlock ∧ k_ ≠ gb268) (.slice A267_5 ((rd_T69 l0 x8_1).f5).length c267_5) ((rd_T69 l0 x8_1).f5)) := ⟨(by rw [hw]; exact (by (with_reducible repeat (first | apply Kd.V_alloc | apply Kd.V_drewN | apply Kd.V_drew)); exact Kd.V_mono (Kd.V_far (p := ⟨gb268, 5, none⟩) (Kd.V_far (p := ⟨gb268, 4, none⟩) (Kd.V_far (p := ⟨gb268, 3, none⟩) (Kd.V_far (p := ⟨gb268, 2, none⟩) (Kd.V_far (p := ⟨gb268, 1, none⟩) (Kd.V_far (p := ⟨gb268, 0, none⟩) (Kd.V_mono HL267_5.out (fun k_ hk => (⟨hk, hk.2⟩ : _ ∧ k_ ≠ gb268))) (fun _ hk => hk.2) (.int .i64 ((rd_T69 l0 x8_1).f0))) (fun _ hk => hk.2) (.int .i64 ((rd_T69 l0 x8_1).f1))) (fun _ hk => hk.2) (.int .u8 ((rd_T69 l0 x8_1).f2))) (fun _ hk => hk.2) (.int .i64 ((rd_T69 l0 x8_1).f3))) (fun _ hk => hk.2) (.slice A267_4 ((rd_T69 l0 x8_1).f4).length c267_4)) (fun _ hk => hk.2) (.slice A267_5 ((rd_T69 l0 x8_1).f5).length c267_5)) (fun _ hk => ⟨hk.1.1.1, ⟨hk.1.1.2, hk.1.2⟩⟩)))⟩; have n4_ : Aside0 (w8.heap[gb268]? = some (.cells #[.int .i64 ((rd_T69 l0 x8_1).f0), .int .i64 ((rd_T69 l0 x8_1).f1), .int .u8 ((rd_T69 l0 x8_1).f2), .int .i64 ((rd_T69 l0 x8_1).f3), .slice A267_4 ((rd_T69 l0 x8_1).f4).length c267_4, .slice A267_5 ((rd_T69 l0 x8_1).f5).length c267_5] 69 (0, 0))) := ⟨(by rw [hw]; exact (by (with_reducible repeat (first | refine blk_drewN ?_ _ | refine blk_drew ?_ | refine blk_alloc ?_ _)); refine blk_put (cs := #[.int .i64 ((rd_T69 l0 x8_1).f0), .int .i64 ((rd_T69 l0 x8_1).f1), .int .u8 ((rd_T69 l0 x8_1).f2), .int .i64 ((rd_T69 l0 x8_1).f3), .slice A267_4 ((rd_T69 l0 x8_1).f4).length c267_4, .slice none 0 0]) ?_ 5 _ rfl; (with_reducible repeat (first | refine blk_drewN ?_ _ | refine blk_drew ?_ | refine blk_alloc ?_ _)); refine blk_put (cs := #[.int .i64 ((rd_T69 l0 x8_1).f0), .int .i64 ((rd_T69 l0 x8_1).f1), .int .u8 ((rd_T69 l0 x8_1).f2), .int .i64 ((rd_T69 l0 x8_1).f3), .slice none 0 0, .slice none 0 0]) ?_ 4 _ rfl; (with_reducible repeat (first | refine blk_drewN ?_ _ | refine blk_drew ?_ | refine blk_alloc ?_ _)); refine blk_put (cs := #[.int .i64 ((rd_T69 l0 x8_1).f0), .int .i64 ((rd_T69 l0 x8_1).f1), .int .u8 ((rd_T69 l0 x8_1).f2), .int .i64 0, .slice none 0 0, .slice none 0 0]) ?_ 3 _ rfl; (with_reducible repeat (first | refine blk_drewN ?_ _ | refine blk_drew ?_ | refine blk_alloc ?_ _)); refine blk_put (cs := #[.int .i64 ((rd_T69 l0 x8_1).f0), .int .i64 ((rd_T69 l0 x8_1).f1), .int .u8 0, .int .i64 0, .slice none 0 0, .slice none 0 0]) ?_ 2 _ rfl; (with_reducible repeat (first | refine blk_drewN ?_ _ | refine blk_drew ?_ | refine blk_alloc ?_ _)); refine blk_put (cs := #[.int .i64 ((rd_T69 l0 x8_1).f0), .int .i64 0, .int .u8 0, .int .i64 0, .slice none 0 0, .slice none 0 0]) ?_ 1 _ rfl; (with_reducible repeat (first | refine blk_drewN ?_ _ | refine blk_drew ?_ | refine blk_alloc ?_ _)); refine blk_put (cs := #[.int .i64 0, .int .i64 0, .int .u8 0, .int .i64 0, .slice none 0 0, .slice none 0 0]) ?_ 0 _ rfl; (with_reducible repeat (first | refine blk_drewN ?_ _ | refine blk_drew ?_ | refine blk_alloc ?_ _)); exact BK268.out))⟩; have n5_ : Aside0 (Below w.heap.size w w8) := ⟨(by rw [hw]; exact (by repeat (first | (with_reducible first | exact HB.out | apply below_alloc | apply pw_below_drewN | apply below_drew1 | refine below_set ?_ GE268.out) | exact HB.out)))⟩; clear hw; clear HO_3; clear HO_6; clear HL267_4; clear HL267_5; clear BK268; clear HB; have HO_3 := n0_; have HO_6 := n1_; have HL267_4 := n2_; have HL267_5 := n3_; have BK268 := n4_; have HB := n5_; clear n0_ n1_ n2_ n3_ n4_ n5_; have hcz9_0 : w8.cell? ⟨gb268, 0, none⟩ = some (.int .i64 ((rd_T69 l0 x8_1).f0)) := (blk_cell BK268.out 0).trans rfl; have hcz9_1 : w8.cell? ⟨gb268, 1, none⟩ = some (.int .i64 ((rd_T69 l0 x8_1).f1)) := (blk_cell BK268.out 1).trans rfl; have hcz9_2 : w8.cell? ⟨gb268, 2, none⟩ = some (.int .u8 ((rd_T69 l0 x8_1).f2)) := (blk_cell BK268.out 2).trans rfl; have hcz9_3 : w8.cell? ⟨gb268, 3, none⟩ = some (.int .i64 ((rd_T69 l0 x8_1).f3)) := (blk_cell BK268.out 3).trans rfl; have hcz9_4 : w8.cell? ⟨gb268, 4, none⟩ = some (.slice A267_4 ((rd_T69 l0 x8_1).f4).length c267_4) := (blk_cell BK268.out 4).trans rfl; have hcz9_5 : w8.cell? ⟨gb268, 5, none⟩ = some (.slice A267_5 ((rd_T69 l0 x8_1).f5).length c267_5) := (blk_cell BK268.out 5).trans rfl; have hfz9_0 := blk_frozen BK268.out 0; have hfz9_1 := blk_frozen BK268.out 1; have hfz9_2 := blk_frozen BK268.out 2; have hfz9_3 := blk_frozen BK268.out 3; have hfz9_4 := blk_frozen BK268.out 4; have hfz9_5 := blk_frozen BK268.out 5) | ((with_reducible refine gate_builtin (b := .append) (xs := #[.tmp 12, .tmp 14]) rfl ?_); at_builtin; refine Kd.N_append k77 (w0 := w) w.heap.size rfl (.tmp 12) (.tmp 14) 60 77 (.agg #[(.int .i64 0), (.int .i64 0), (.int .u8 0), (.int .i64 0), (.slice none 0 0), (.slice none 0 0)]) 80 rfl Tryz.underlying60 info77 rfl (by decide) (by omega) u3 x3_1 (⟨(rd_T69 l0 x8_1).f0, (rd_T69 l0 x8_1).f1, (rd_T69 l0 x8_1).f2, (rd_T69 l0 x8_1).f3, (rd_T69 l0 x8_1).f4, (rd_T69 l0 x8_1).f5⟩ : S77) [.int .i64 ((rd_T69 l0 x8_1).f0), .int .i64 ((rd_T69 l0 x8_1).f1), .int .u8 ((rd_T69 l0 x8_1).f2), .int .i64 ((rd_T69 l0 x8_1).f3), .slice A267_4 ((rd_T69 l0 x8_1).f4).length c267_4, .slice A267_5 ((rd_T69 l0 x8_1).f5).length c267_5] (fun k_ => (P0_ k_ ∨ w.heap.size ≤ k_) ∧ k_ ≠ gb268) (fun k_ => ((fun k_ => (P0_ k_ ∨ w.heap.size ≤ k_) ∧ k_ ≠ gb268)) k_ ∧ some k_ ≠ (u3 : Value).ownBlock) rfl rfl ?aP (fun _ hk => hk) ?aF ?aO ?aB ?aS ?aL ?_; (case aP => exact (k77_mkF _ _ (⟨(rd_T69 l0 x8_1).f0, (rd_T69 l0 x8_1).f1, (rd_T69 l0 x8_1).f2, (rd_T69 l0 x8_1).f3, (rd_T69 l0 x8_1).f4, (rd_T69 l0 x8_1).f5⟩ : S77) (Kd.V_reads' (Kd.V_mono (ok' := (fun k_ => ((fun k_ => (P0_ k_ ∨ w.heap.size ≤ k_) ∧ k_ ≠ gb268)) k_ ∧ some k_ ≠ (u3 : Value).ownBlock)) (HL267_4.out) (fun k_ hk => ⟨⟨hk.1, hk.2.2⟩, hk.2.1⟩))).2.1 (Kd.V_F (Kd.V_mono (ok' := (fun k_ => ((fun k_ => (P0_ k_ ∨ w.heap.size ≤ k_) ∧ k_ ≠ gb268)) k_ ∧ some k_ ≠ (u3 : Value).ownBlock)) (HL267_4.out) (fun k_ hk => ⟨⟨hk.1, hk.2.2⟩, hk.2.1⟩))) (Kd.V_reads' (Kd.V_mono (ok' := (fun k_ => ((fun k_ => (P0_ k_ ∨ w.heap.size ≤ k_) ∧ k_ ≠ gb268)) k_ ∧ some k_ ≠ (u3 : Value).ownBlock)) (HL267_5.out) (fun k_ hk => ⟨⟨hk.1, hk.2.2⟩, hk.2.1⟩))).2.1 (Kd.V_F (Kd.V_mono (ok' := (fun k_ => ((fun k_ => (P0_ k_ ∨ w.heap.size ≤ k_) ∧ k_ ≠ gb268)) k_ ∧ some k_ ≠ (u3 : Value).ownBlock)) (HL267_5.out) (fun k_ hk => ⟨⟨hk.1, hk.2.2⟩, hk.2.1⟩))))); (case aB => exact (by repeat (first | (with_reducible first | exact HB.out | apply below_alloc | apply pw_below_drewN | apply below_drew1 | refine below_set ?_ GE268.out) | exact HB.out))); (case aF => exact (fun k_ hk => ⟨(.inr (Nat.le_trans (below_size (by repeat (first | (with_reducible first | exact HB.out | apply below_alloc | apply pw_below_drewN | apply below_drew1 | refine below_set ?_ GE268.out) | exact HB.out))) hk)), Kd.freshB (g := gb268) (o := .cells #[.int .i64 ((rd_T69 l0 x8_1).f0), .int .i64 ((rd_T69 l0 x8_1).f1), .int .u8 ((rd_T69 l0 x8_1).f2), .int .i64 ((rd_T69 l0 x8_1).f3), .slice A267_4 ((rd_T69 l0 x8_1).f4).length c267_4, .slice A267_5 ((rd_T69 l0 x8_1).f5).length c267_5] 69 (0, 0)) (by (with_reducible repeat (first | refine blk_drewN ?_ _ | refine blk_drew ?_ | refine blk_alloc ?_ _)); exact BK268.out) k_ hk⟩)); (case aO => exact (by (with_reducible repeat (first | apply Kd.N_alloc | apply Kd.N_drewN | apply Kd.N_drew)); exact HO_3.out)); (case aS => exact (below_size (by repeat (first | (with_reducible first | exact HB.out | apply below_alloc | apply pw_below_drewN | apply below_drew1 | refine below_set ?_ GE268.out) | exact HB.out)))); (case aL => have := LMc5.out; omega); intro v270 w10 ho hb hg hat; rw [← Ny269.out] at ho; have n0_ := Aside0.mk (Kd.V_afterv (ok := (fun k_ => (P0_ k_ ∨ w.heap.size ≤ k_) ∧ k_ ≠ gb268)) (by (with_reducible repeat (first | apply Kd.V_alloc | apply Kd.V_drewN | apply Kd.V_drew)); exact Kd.V_mono HO_6.out (fun _ hk => ⟨⟨hk.1, hk.2.2⟩, hk.2.1⟩)) hg hat); have n1_ := Aside0.mk (Kd.V_afterv (ok := (fun k_ => (P0_ k_ ∨ w.heap.size ≤ k_) ∧ k_ ≠ gb268)) (by (with_reducible repeat (first | apply Kd.V_alloc | apply Kd.V_drewN | apply Kd.V_drew)); exact Kd.V_mono HL267_4.out (fun _ hk => ⟨⟨hk.1, hk.2.2⟩, hk.2.1⟩)) hg hat); have n2_ := Aside0.mk (Kd.V_afterv (ok := (fun k_ => (P0_ k_ ∨ w.heap.size ≤ k_) ∧ k_ ≠ gb268)) (by (with_reducible repeat (first | apply Kd.V_alloc | apply Kd.V_drewN | apply Kd.V_drew)); exact Kd.V_mono HL267_5.out (fun _ hk => ⟨⟨hk.1, hk.2.2⟩, hk.2.1⟩)) hg hat); have n3_ := Aside0.mk (blk_grown (g := gb268) (o := .cells #[.int .i64 ((rd_T69 l0 x8_1).f0), .int .i64 ((rd_T69 l0 x8_1).f1), .int .u8 ((rd_T69 l0 x8_1).f2), .int .i64 ((rd_T69 l0 x8_1).f3), .slice A267_4 ((rd_T69 l0 x8_1).f4).length c267_4, .slice A267_5 ((rd_T69 l0 x8_1).f5).length c267_5] 69 (0, 0)) (by (with_reducible repeat (first | refine blk_drewN ?_ _ | refine blk_drew ?_ | refine blk_alloc ?_ _)); exact BK268.out) hg (Kd.N_ne HO_3.out BK268.out (by decide))); have n4_ := Aside0.mk (hb); have n5_ := Aside0.mk (ho); clear HO_6; clear HL267_4; clear HL267_5; clear BK268; clear HB; clear HO_3; have HO_6 := n0_; have HL267_4 := n1_; have HL267_5 := n2_; have BK268 := n3_; have HB := n4_; have HO271 := n5_; clear n0_ n1_ n2_ n3_ n4_ n5_; clear ho hb hg hat))
              go_roundg k1
              case measure => have := HK1.out; omega
              case rel => exact ⟨(y269), (wrap64 (x8_1 + 1)), (by first | rfl | (simp; done) | (simp [*]; done)), H', ⟨by have := HK1.out; omega⟩, ⟨by (with_reducible repeat (first | apply Kd.N_alloc | apply Kd.N_drewN | apply Kd.N_drew)); exact Kd.N_mono HO271.out (fun _ hk => hk.1)⟩, ⟨by (with_reducible repeat (first | apply Kd.V_alloc | apply Kd.V_drewN | apply Kd.V_drew)); exact Kd.V_mono HO_6.out (fun _ hk => ⟨hk.1.1, hk.2⟩)⟩, ⟨by repeat (first | (with_reducible first | exact HB.out | apply below_alloc | apply pw_below_drewN | apply below_drew1 | refine below_set ?_ GE268.out) | exact HB.out)⟩⟩
            · rw [if_neg c5] at H
              exact absurd H (by simp)
          · rw [if_neg c4] at H
            exact absurd H (by simp)
        · rw [if_neg c3] at H
          exact absurd H (by simp)
      · rw [if_neg c2] at H
        have c2b0 : decide (x8_1 < (l0.length : Int)) = false := decide_eq_false c2
        clear c2
        obtain rfl := Option.some.inj H
        go_wp2
        go_ret
        exact ⟨_, by first | rfl | (simp [errW_none, errW_some] <;> rfl) | (simp [*, errW_none, errW_some] <;> rfl), by (with_reducible repeat (first | apply Kd.N_alloc | apply Kd.N_drewN | apply Kd.N_drew)); exact HO_3.out, by repeat (first | (with_reducible first | exact HB.out | apply below_alloc | apply pw_below_drewN | apply below_drew1) | exact HB.out)⟩
end Go.Proofs.YtmlginohbckfcaaGreatDoor.Y
end
section
namespace Go.Proofs.YtmlginohbckfcaaGreatDoor.Y
open Go.RowKit Go.Proofs.YtmlginohbckfcaaGreatDoorW.PrintWords Go.Proofs.YtmlginohbckfcaaGreatDoorW.PrintLast Go.Proofs.YtmlginohbckfcaaGreatDoorW.PrintMore
set_option linter.unusedSimpArgs false
set_option linter.unusedVariables false
set_option maxRecDepth 100000
set_option maxHeartbeats 8000000
/-- A screen of one's own. -/
def Own (w w' : World) (g : Nat) (s : Scr) : Prop := (∃ B T c bs, w.heap.size ≤ B ∧ AtX w' B g T c bs s) ∧ Below w.heap.size w w'
theorem screen_calls (A0 : Option Addr) (c0 : Nat) (l0 : List S69) (P0 : Nat → Prop) (w : World) (hs0 : Kd.V k69 69 w w.heap.size P0 (.slice A0 l0.length c0) l0) (hl : l0.length ≤ 1000000)
    (ops : List S42) (hd : spec_DrawRead.f (l0.map cv) = some (ops, true)) (hop : ∀ o ∈ ops, Does o) (hn : ops.length ≤ 1000000) (Wd H : Nat) (hw : 1 ≤ Wd ∧ Wd ≤ 1000) (hh : 1 ≤ H ∧ H ≤ 1000) :
    Calls Tryz.prog 10 #[.int .i64 (Wd : Int), .int .i64 (H : Int), .slice A0 l0.length c0] w fun e w' => ∃ g, e = .returned (.tuple #[.pointer (some ⟨g, 0, none⟩), .bool true]) ∧ Hid (Own w w' g ((newScr Wd H).play attrA (ops.map po))) := by
  have hde := drawEvents_f l0 (by omega) 1000001 (by omega)
  generalize l0.map cv = sp at hd hde
  have HI := Lib.hid (And.intro hs0 (And.intro hde (And.intro hd (And.intro hop (And.intro hn (And.intro hw hh))))))
  clear hs0 hl hd hop hn hw hh hde
  go_enter Tryz.func10, Tryz.ntmps10
  go_wp2_with fail
  with_reducible refine (laws_drawEvents.calls 1000001 P0 _ _ l0 sp _ HI.out.1 HI.out.2.1).mono ?_
  rintro e w1 ⟨v1, rfl, hN, hb1⟩
  obtain ⟨A1, c1, rfl, hc1, hr1⟩ := Kd.N_reads hN
  have H1 := Lib.hid (And.intro hb1 (And.intro hc1 hr1))
  clear hN hb1 hc1 hr1
  go_wp2_with fail
  with_reducible refine (spec_DrawRead.calls _ _ sp ops true _ H1.out.2.2 H1.out.2.1 HI.out.2.2.1).mono ?_
  rintro e w2 ⟨v2, rfl, hS, hb2⟩
  obtain ⟨A2, c2, rfl, hc2, hr2⟩ := Kd.S_reads hS
  have H2 := Lib.hid (And.intro (Below.trans H1.out.1 (hb2.mono H1.out.1.size)) hr2)
  clear hS hb2 hc2 hr2 H1
  go_wp2_with fail
  refine (new_calls w2 Wd H HI.out.2.2.2.2.2.1 HI.out.2.2.2.2.2.2).mono ?_
  rintro e w3 ⟨rfl, ⟨T, c, bs, ha3⟩, hb3⟩
  have H3 := Lib.hid (And.intro ha3 hb3)
  clear ha3 hb3
  go_wp2_with fail
  refine (play_calls H3.out.1 (new_fine Wd H (by have := HI.out.2.2.2.2.2.1; omega) (by have := HI.out.2.2.2.2.2.1; omega) (by have := HI.out.2.2.2.2.2.2; omega) (by have := HI.out.2.2.2.2.2.2; omega)) A2 c2 ops H2.out.2 (Nat.le_refl _) H3.out.2 HI.out.2.2.2.1 HI.out.2.2.2.2.1).mono ?_
  rintro e w4 ⟨rfl, ⟨bs', ha4⟩, hb4⟩
  have H4 := Lib.hid (show Own w w4 w2.heap.size ((newScr Wd H).play attrA (ops.map po)) from ⟨⟨_, T, c, bs', H2.out.1.size, ha4⟩, H2.out.1.trans ((H3.out.2.trans hb4).mono H2.out.1.size)⟩)
  clear ha4 hb4 H3
  go_wp2_with fail
  go_ret2
  exact ⟨_, rfl, H4⟩
end Go.Proofs.YtmlginohbckfcaaGreatDoor.Y
end
section
namespace Go.Proofs.YtmlginohbckfcaaGreatDoor.Y
open Go.RowKit Go.Proofs.YtmlginohbckfcaaGreatDoorW.PrintWords Go.Proofs.YtmlginohbckfcaaGreatDoorW.PrintLast Go.Proofs.YtmlginohbckfcaaGreatDoorW.PrintMore
set_option linter.unusedSimpArgs false
set_option linter.unusedVariables false
set_option maxRecDepth 100000
set_option maxHeartbeats 8000000
theorem same_calls {w : World} {B g T c B2 g2 T2 c2 : Nat} {bs bs2 : List Nat} {s : Scr} (h1 : AtX w B g T c bs s) (h2 : AtX w B2 g2 T2 c2 bs2 s) (hf : Fine s) :
    Calls Tryz.prog 17 #[.pointer (some ⟨g, 0, none⟩), .pointer (some ⟨g2, 0, none⟩), .bool false] w fun e w' => e = .returned (.bool true) ∧ Below w.heap.size w w' := by
  have HI := Lib.hid (And.intro h1 (And.intro h2 hf))
  have a0 : w.cell? ⟨g, 0, none⟩ = some (.int .i64 s.w) := h1.cell 0
  have a1 : w.cell? ⟨g, 1, none⟩ = some (.int .i64 s.h) := h1.cell 1
  have a3 : w.cell? ⟨g, 3, none⟩ = some (.int .i64 s.pen.x) := h1.cell 3
  have a4 : w.cell? ⟨g, 4, none⟩ = some (.int .i64 s.pen.y) := h1.cell 4
  have a5 : w.cell? ⟨g, 5, none⟩ = some (.int .i64 s.pen.a) := h1.cell 5
  have b0 : w.cell? ⟨g2, 0, none⟩ = some (.int .i64 s.w) := h2.cell 0
  have b1 : w.cell? ⟨g2, 1, none⟩ = some (.int .i64 s.h) := h2.cell 1
  have b3 : w.cell? ⟨g2, 3, none⟩ = some (.int .i64 s.pen.x) := h2.cell 3
  have b4 : w.cell? ⟨g2, 4, none⟩ = some (.int .i64 s.pen.y) := h2.cell 4
  have b5 : w.cell? ⟨g2, 5, none⟩ = some (.int .i64 s.pen.a) := h2.cell 5
  clear h1 h2 hf
  go_enter Tryz.func17, Tryz.ntmps17
  go_wp2_with fail
  go_still (by kernel_rfl)
  change Exit.then _ _ _ _ w.drew
  obtain ⟨W, hW⟩ : ∃ W, W = w.drew := ⟨_, rfl⟩
  rw [← hW]
  have HJ := Lib.hid (show AtX W B g T c bs s ∧ AtX W B2 g2 T2 c2 bs2 s ∧ Fine s ∧ Below w.heap.size w W by rw [hW]; exact ⟨HI.out.1.drew, HI.out.2.1.drew, HI.out.2.2, (Below.refl _ _).drew⟩)
  clear hW a0 a1 a3 a4 a5 b0 b1 b3 b4 b5
  have a2 : W.cell? ⟨g, 2, none⟩ = some (.slice (some ⟨T, 0, none⟩) s.h c) := HJ.out.1.cell 2
  go_wp2_with fail
  clear a2
  go_loopg [79] s.h (fun kq v79 w' => ∃ i : Nat, v79 = .int .i64 (i : Int) ∧ i + kq = s.h ∧ Hid (Below W.heap.size W w'))
  case atStart => exact ⟨0, rfl, by omega, Below.refl _ _⟩
  case round =>
    obtain ⟨i, rfl, hk, hA⟩ := hrel
    by_cases hi : i < s.h
    · have d3 : (i : Int) < (s.h : Int) := by omega
      have i0 : (0 : Int) ≤ (i : Int) := by omega
      have e1 : IntKind.i64.wrap ((i : Int) + 1) = ((i + 1 : Nat) : Int) := by have := HJ.out.2.2.1.h1; rw [wrapI _ (by omega) (by omega)]; omega
      have hir : i < s.rows.length := by rw [HJ.out.2.2.1.rl]; exact hi
      obtain ⟨b, hb, z1, z2, hT⟩ := (HJ.out.1.below hA.out).get hir
      obtain ⟨b', hb', z3, z4, z5⟩ := (HJ.out.2.1.below hA.out).get hir
      have hlen := HJ.out.2.2.1.rw _ (List.getElem_mem hir)
      have hrl : s.rows[i]? = some s.rows[i] := List.getElem?_eq_getElem hir
      clear z1 z2 z3 z4 z5
      generalize s.rows[i] = r at hlen hrl
      have HR := Lib.hid (And.intro hb (And.intro hb' (And.intro hlen hrl)))
      have hT' : wr.cell? ⟨T, i, none⟩ = some (.slice (some ⟨b, 0, none⟩) s.w s.w) := hT
      have a2 : wr.cell? ⟨g, 2, none⟩ = some (.slice (some ⟨T, 0, none⟩) s.h c) := (HJ.out.1.below hA.out).cell 2
      clear hb hb' hlen hrl hT hir
      go_wp2_with fail
      clear hT' a2
      go_loopg [90] s.w (fun kq v90 w' => ∃ j : Nat, v90 = .int .i64 (j : Int) ∧ j + kq = s.w ∧ Hid (Below W.heap.size W w'))
      case atStart => exact ⟨0, rfl, by omega, hA.out⟩
      case round =>
        clear hA
        obtain ⟨j, rfl, hkj, hA⟩ := hrel
        by_cases hj : j < s.w
        · have d4 : (j : Int) < (s.w : Int) := by omega
          have j0 : (0 : Int) ≤ (j : Int) := by omega
          have e2 : IntKind.i64.wrap ((j : Int) + 1) = ((j + 1 : Nat) : Int) := by have := HJ.out.2.2.1.w1; rw [wrapI _ (by omega) (by omega)]; omega
          have hx : j < r.length := by rw [HR.out.2.2.1]; exact hj
          obtain ⟨q0, q1, _⟩ := (HJ.out.1.below hA.out).glyph HR.out.1 HR.out.2.2.2 (List.getElem?_eq_getElem hx)
          obtain ⟨p0, p1, _⟩ := (HJ.out.2.1.below hA.out).glyph HR.out.2.1 HR.out.2.2.2 (List.getElem?_eq_getElem hx)
          have a2 : wr.cell? ⟨g2, 2, none⟩ = some (.slice (some ⟨T2, 0, none⟩) s.h c2) := (HJ.out.2.1.below hA.out).cell 2
          have hT' : wr.cell? ⟨T2, i, none⟩ = some (.slice (some ⟨b', 0, none⟩) s.w s.w) := by
            obtain ⟨b3, hb3, _, _, h3⟩ := (HJ.out.2.1.below hA.out).get (show i < s.rows.length by rw [HJ.out.2.2.1.rl]; exact hi)
            rw [HR.out.2.1] at hb3
            obtain rfl := Option.some.inj hb3
            exact h3
          generalize r[j] = gl at q0 q1 p0 p1
          clear hx
          go_upto_region 9 with fail
          obtain ⟨V, hV⟩ : ∃ V, V = wr.alloc (Obj.cells #[.int .u8 gl.1, .int .i64 gl.2] 74) := ⟨_, rfl⟩
          rw [← hV]
          have hVB : Below wr.heap.size wr V := by rw [hV]; exact (Below.refl _ _).alloc (Nat.le_refl _) _
          have hVn : V.heap[wr.heap.size]? = some (Obj.cells #[.int .u8 gl.1, .int .i64 gl.2] 74 (0, 0)) := by rw [hV]; exact blk_new wr _
          have HV := Lib.hid (And.intro hVB hVn)
          replace a2 := (hVB.cell (World.block_lt_of_cell? wr _ a2)).trans a2
          replace hT' := (hVB.cell (World.block_lt_of_cell? wr _ hT')).trans hT'
          replace p0 := (hVB.cell (World.block_lt_of_cell? wr _ p0)).trans p0
          replace p1 := (hVB.cell (World.block_lt_of_cell? wr _ p1)).trans p1
          clear hVB hVn hV q0 q1
          go_upto_region 10 with fail
          obtain ⟨U, hU⟩ : ∃ U, U = V.alloc (Obj.cells #[.int .u8 gl.1, .int .i64 gl.2] 74) := ⟨_, rfl⟩
          rw [← hU]
          have hUB : Below V.heap.size V U := by rw [hU]; exact (Below.refl _ _).alloc (Nat.le_refl _) _
          have hUn : U.heap[V.heap.size]? = some (Obj.cells #[.int .u8 gl.1, .int .i64 gl.2] 74 (0, 0)) := by rw [hU]; exact blk_new V _
          have r0 : U.cell? ⟨wr.heap.size, 0, none⟩ = some (.int .u8 gl.1) := (hUB.cell (blk_lt HV.out.2)).trans (blk_cell HV.out.2 0)
          have r1 : U.cell? ⟨wr.heap.size, 1, none⟩ = some (.int .i64 gl.2) := (hUB.cell (blk_lt HV.out.2)).trans (blk_cell HV.out.2 1)
          have t0 : U.cell? ⟨V.heap.size, 0, none⟩ = some (.int .u8 gl.1) := blk_cell hUn 0
          have t1 : U.cell? ⟨V.heap.size, 1, none⟩ = some (.int .i64 gl.2) := blk_cell hUn 1
          have HU := Lib.hid (show Below W.heap.size W U from hA.out.trans ((HV.out.1.trans (hUB.mono HV.out.1.size)).mono hA.out.size))
          clear hUB hUn hU a2 hT' p0 p1
          go_wp2_with fail
          go_roundg (s.w - (j + 1))
          case measure => omega
          case rel => exact ⟨j + 1, rfl, by omega, HU.out⟩
        · have d4 : decide ((j : Int) < (s.w : Int)) = false := decide_eq_false (by omega)
          go_wp2_with fail
          go_roundg (s.h - (i + 1))
          case measure => omega
          case rel => exact ⟨i + 1, rfl, by omega, hA.out⟩
    · have d3 : decide ((i : Int) < (s.h : Int)) = false := decide_eq_false (by omega)
      go_wp2_with fail
      go_ret
      exact ⟨rfl, HJ.out.2.2.2.trans (hA.out.mono HJ.out.2.2.2.size)⟩
end Go.Proofs.YtmlginohbckfcaaGreatDoor.Y
end
section
namespace Go.Proofs.YtmlginohbckfcaaGreatDoor.Y
open Go.RowKit Go.Proofs.YtmlginohbckfcaaGreatDoorW.PrintWords Go.Proofs.YtmlginohbckfcaaGreatDoorW.PrintLast Go.Proofs.YtmlginohbckfcaaGreatDoorW.PrintMore
attribute [local go_sem] max2_int min2_int max_two min_two max_three min_three max_four min_four   -- for this text's walks alone
set_option linter.unusedVariables false
set_option linter.unusedSimpArgs false
set_option maxHeartbeats 8000000 in
set_option maxRecDepth 100000 in
theorem laws_zzFits4.calls (a0_0 : Int) (a0_1 : Int) (a0_2 : Int) (a0_3 : ByteArray) (A0_4 : Option Addr) (c0_4 : Nat) (l0_4 : List Int) (r : Bool) (w : World) (hr0_4 : Kd.C (Kd.int .i64) w A0_4 l0_4.length l0_4) (hc0_4 : l0_4.length ≤ c0_4) (h : laws_zzFits4.f a0_0 a0_1 a0_2 a0_3 l0_4 = some r) :
    Calls Tryz.prog 68 #[.agg #[.int .i64 a0_0, .int .i64 a0_1, .int .i64 a0_2, .string a0_3, .slice A0_4 l0_4.length c0_4]] w fun e w' => e = .returned (.bool r) ∧ Below w.heap.size w w' := by
  have hu42 := Tryz.underlying42
  have HR0_4 := Aside0.mk hr0_4
  have HC0_4 := Aside0.mk hc0_4
  clear hr0_4 hc0_4
  have HB := Aside0.mk (Below.refl w.heap.size w)
  have H : (if (a0_3.size : Int) > 2147483647 then (some false) else (if (l0_4.length : Int) > 2147483647 then (some false) else (some true))) = some r := h
  clear h
  by_cases c2 : (a0_3.size : Int) > 2147483647
  · rw [if_pos c2] at H
    have c2b0 : decide (2147483647 < (a0_3.size : Int)) = true := decide_eq_true c2
    have c2b1 : decide (2147483647 < a0_3.size) = true := decide_eq_true (by omega)
    clear c2
    obtain rfl := Option.some.inj H
    go_enter Tryz.func68, Tryz.ntmps68
    go_wp2_with (first | ((with_reducible refine gate_dst (N := 1) rfl ?_); refine box_event ?hg (N := 1) ?hd (cs := #[.int .i64 a0_0, .int .i64 a0_1, .int .i64 a0_2, .string a0_3, .slice A0_4 l0_4.length c0_4]) (t := 42) ?hr ?_; (case hd => rfl); (case hg => rfl); (case hr => first | (go_simp; done) | (go_simp; rfl)); intro gb281 hg w3 hbox hb; have n0_ := Aside0.mk (below_step (by repeat (first | (with_reducible first | exact HB.out | apply below_alloc | apply pw_below_drewN | apply below_drew1) | exact HB.out)) hb); have n1_ := Aside0.mk (hbox); have n2_ := Aside0.mk ((by rw [hg]; exact (below_size (by repeat (first | (with_reducible first | exact HB.out | apply below_alloc | apply pw_below_drewN | apply below_drew1) | exact HB.out))) : w.heap.size ≤ gb281)); have n3_ := Aside0.mk ((by rw [hg]; exact (below_size (by repeat (first | (with_reducible first | exact HB.out | apply below_alloc | apply pw_below_drewN | apply below_drew1) | exact HB.out))) : w.heap.size ≤ gb281)); clear HB; have HB := n0_; have BK281 := n1_; have GW281 := n2_; have GE281 := n3_; clear n0_ n1_ n2_ n3_; clear hb hbox hg; have hcz4_0 : w3.cell? ⟨gb281, 0, none⟩ = some (.int .i64 a0_0) := (blk_cell BK281.out 0).trans rfl; have hcz4_1 : w3.cell? ⟨gb281, 1, none⟩ = some (.int .i64 a0_1) := (blk_cell BK281.out 1).trans rfl; have hcz4_2 : w3.cell? ⟨gb281, 2, none⟩ = some (.int .i64 a0_2) := (blk_cell BK281.out 2).trans rfl; have hcz4_3 : w3.cell? ⟨gb281, 3, none⟩ = some (.string a0_3) := (blk_cell BK281.out 3).trans rfl; have hcz4_4 : w3.cell? ⟨gb281, 4, none⟩ = some (.slice A0_4 l0_4.length c0_4) := (blk_cell BK281.out 4).trans rfl; have hfz4_0 := blk_frozen BK281.out 0; have hfz4_1 := blk_frozen BK281.out 1; have hfz4_2 := blk_frozen BK281.out 2; have hfz4_3 := blk_frozen BK281.out 3; have hfz4_4 := blk_frozen BK281.out 4))
    go_ret
    exact ⟨by first | rfl | (simp [errW_none, errW_some] <;> rfl) | (simp [*, errW_none, errW_some] <;> rfl), by repeat (first | (with_reducible first | exact HB.out | apply below_alloc | apply pw_below_drewN | apply below_drew1 | refine below_set ?_ GE281.out) | exact HB.out)⟩
  · rw [if_neg c2] at H
    have c2b0 : decide (2147483647 < (a0_3.size : Int)) = false := decide_eq_false c2
    have c2b1 : decide (2147483647 < a0_3.size) = false := decide_eq_false (by omega)
    clear c2
    by_cases c5 : (l0_4.length : Int) > 2147483647
    · rw [if_pos c5] at H
      have c5b0 : decide (2147483647 < (l0_4.length : Int)) = true := decide_eq_true c5
      have c5b1 : decide (2147483647 < l0_4.length) = true := decide_eq_true (by omega)
      clear c5
      obtain rfl := Option.some.inj H
      go_enter Tryz.func68, Tryz.ntmps68
      go_wp2_with (first | ((with_reducible refine gate_dst (N := 1) rfl ?_); refine box_event ?hg (N := 1) ?hd (cs := #[.int .i64 a0_0, .int .i64 a0_1, .int .i64 a0_2, .string a0_3, .slice A0_4 l0_4.length c0_4]) (t := 42) ?hr ?_; (case hd => rfl); (case hg => rfl); (case hr => first | (go_simp; done) | (go_simp; rfl)); intro gb281 hg w6 hbox hb; have n0_ := Aside0.mk (below_step (by repeat (first | (with_reducible first | exact HB.out | apply below_alloc | apply pw_below_drewN | apply below_drew1) | exact HB.out)) hb); have n1_ := Aside0.mk (hbox); have n2_ := Aside0.mk ((by rw [hg]; exact (below_size (by repeat (first | (with_reducible first | exact HB.out | apply below_alloc | apply pw_below_drewN | apply below_drew1) | exact HB.out))) : w.heap.size ≤ gb281)); have n3_ := Aside0.mk ((by rw [hg]; exact (below_size (by repeat (first | (with_reducible first | exact HB.out | apply below_alloc | apply pw_below_drewN | apply below_drew1) | exact HB.out))) : w.heap.size ≤ gb281)); clear HB; have HB := n0_; have BK281 := n1_; have GW281 := n2_; have GE281 := n3_; clear n0_ n1_ n2_ n3_; clear hb hbox hg; have hcz7_0 : w6.cell? ⟨gb281, 0, none⟩ = some (.int .i64 a0_0) := (blk_cell BK281.out 0).trans rfl; have hcz7_1 : w6.cell? ⟨gb281, 1, none⟩ = some (.int .i64 a0_1) := (blk_cell BK281.out 1).trans rfl; have hcz7_2 : w6.cell? ⟨gb281, 2, none⟩ = some (.int .i64 a0_2) := (blk_cell BK281.out 2).trans rfl; have hcz7_3 : w6.cell? ⟨gb281, 3, none⟩ = some (.string a0_3) := (blk_cell BK281.out 3).trans rfl; have hcz7_4 : w6.cell? ⟨gb281, 4, none⟩ = some (.slice A0_4 l0_4.length c0_4) := (blk_cell BK281.out 4).trans rfl; have hfz7_0 := blk_frozen BK281.out 0; have hfz7_1 := blk_frozen BK281.out 1; have hfz7_2 := blk_frozen BK281.out 2; have hfz7_3 := blk_frozen BK281.out 3; have hfz7_4 := blk_frozen BK281.out 4))
      go_ret
      exact ⟨by first | rfl | (simp [errW_none, errW_some] <;> rfl) | (simp [*, errW_none, errW_some] <;> rfl), by repeat (first | (with_reducible first | exact HB.out | apply below_alloc | apply pw_below_drewN | apply below_drew1 | refine below_set ?_ GE281.out) | exact HB.out)⟩
    · rw [if_neg c5] at H
      have c5b0 : decide (2147483647 < (l0_4.length : Int)) = false := decide_eq_false c5
      have c5b1 : decide (2147483647 < l0_4.length) = false := decide_eq_false (by omega)
      clear c5
      obtain rfl := Option.some.inj H
      go_enter Tryz.func68, Tryz.ntmps68
      go_wp2_with (first | ((with_reducible refine gate_dst (N := 1) rfl ?_); refine box_event ?hg (N := 1) ?hd (cs := #[.int .i64 a0_0, .int .i64 a0_1, .int .i64 a0_2, .string a0_3, .slice A0_4 l0_4.length c0_4]) (t := 42) ?hr ?_; (case hd => rfl); (case hg => rfl); (case hr => first | (go_simp; done) | (go_simp; rfl)); intro gb281 hg w8 hbox hb; have n0_ := Aside0.mk (below_step (by repeat (first | (with_reducible first | exact HB.out | apply below_alloc | apply pw_below_drewN | apply below_drew1) | exact HB.out)) hb); have n1_ := Aside0.mk (hbox); have n2_ := Aside0.mk ((by rw [hg]; exact (below_size (by repeat (first | (with_reducible first | exact HB.out | apply below_alloc | apply pw_below_drewN | apply below_drew1) | exact HB.out))) : w.heap.size ≤ gb281)); have n3_ := Aside0.mk ((by rw [hg]; exact (below_size (by repeat (first | (with_reducible first | exact HB.out | apply below_alloc | apply pw_below_drewN | apply below_drew1) | exact HB.out))) : w.heap.size ≤ gb281)); clear HB; have HB := n0_; have BK281 := n1_; have GW281 := n2_; have GE281 := n3_; clear n0_ n1_ n2_ n3_; clear hb hbox hg; have hcz9_0 : w8.cell? ⟨gb281, 0, none⟩ = some (.int .i64 a0_0) := (blk_cell BK281.out 0).trans rfl; have hcz9_1 : w8.cell? ⟨gb281, 1, none⟩ = some (.int .i64 a0_1) := (blk_cell BK281.out 1).trans rfl; have hcz9_2 : w8.cell? ⟨gb281, 2, none⟩ = some (.int .i64 a0_2) := (blk_cell BK281.out 2).trans rfl; have hcz9_3 : w8.cell? ⟨gb281, 3, none⟩ = some (.string a0_3) := (blk_cell BK281.out 3).trans rfl; have hcz9_4 : w8.cell? ⟨gb281, 4, none⟩ = some (.slice A0_4 l0_4.length c0_4) := (blk_cell BK281.out 4).trans rfl; have hfz9_0 := blk_frozen BK281.out 0; have hfz9_1 := blk_frozen BK281.out 1; have hfz9_2 := blk_frozen BK281.out 2; have hfz9_3 := blk_frozen BK281.out 3; have hfz9_4 := blk_frozen BK281.out 4))
      go_ret
      exact ⟨by first | rfl | (simp [errW_none, errW_some] <;> rfl) | (simp [*, errW_none, errW_some] <;> rfl), by repeat (first | (with_reducible first | exact HB.out | apply below_alloc | apply pw_below_drewN | apply below_drew1 | refine below_set ?_ GE281.out) | exact HB.out)⟩
end Go.Proofs.YtmlginohbckfcaaGreatDoor.Y
end
