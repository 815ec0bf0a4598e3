/- Texts of this claim, joined: Y78. Of each, what the claim uses. -/
import Derived.Test.YtjkjnhcnmjknmaaGreatDoorKModese
section
namespace Go.Proofs.YtjkjnhcnmjknmaaGreatDoor.Y
open Go.RowKit Go.Proofs.YtjkjnhcnmjknmaaGreatDoorW.PrintWords Go.Proofs.YtjkjnhcnmjknmaaGreatDoorW.PrintLast Go.Proofs.YtjkjnhcnmjknmaaGreatDoorW.PrintMore
attribute [local go_sem] max2_int min2_int max_two min_two max_three min_three max_four min_four   -- for this text's walks alone
set_option linter.unusedVariables false
set_option linter.unusedSimpArgs false
set_option maxHeartbeats 8000000 in
set_option maxRecDepth 100000 in
theorem laws_FnDrawModes.calls (k : Nat) (A0 : Option Addr) (c0 : Nat) (l0 : List (S43)) (r : Bool) (w : World) (hT : XTab w) (hr0 : Kd.C k43 w A0 l0.length l0) (hc0 : l0.length ≤ c0) (h : laws_FnDrawModes.f k l0 = some r) :
    Calls Tryz.prog 4 #[.slice A0 l0.length c0] w fun e w' => e = .returned (.bool r) ∧ Below w.heap.size w w' := by
  have hu43 := Tryz.underlying43
  have hu23 := Tryz.underlying23
  have HT := Aside0.mk hT
  clear hT
  have HR0 := Aside0.mk hr0
  have HC0 := Aside0.mk hc0
  clear hr0 hc0
  have HB := Aside0.mk (Below.refl w.heap.size w)
  have H : ((laws_zzFits9.f k l0).bind fun t300 => (if t300 = true then (laws_FnDrawModes.l0 k l0 ([] : List (S45)) (⟨#[]⟩ : ByteArray) l0 (l0.length : Int) 0) else (some true))) = some r := h
  clear h
  replace H := Option.bind_eq_some_iff.mp H
  obtain ⟨t300, A20, H⟩ := H
  replace H : (if t300 = true then (laws_FnDrawModes.l0 k l0 ([] : List (S45)) (⟨#[]⟩ : ByteArray) l0 (l0.length : Int) 0) else (some true)) = some r := H
  have A2 := Aside0.mk A20
  clear A20
  by_cases c3 : t300 = true
  · subst c3
    have H1 : (laws_FnDrawModes.l0 k l0 ([] : List (S45)) (⟨#[]⟩ : ByteArray) l0 (l0.length : Int) 0) = some r := by rw [if_pos rfl] at H; exact H
    clear H
    have H := H1
    clear H1
    have H' := Aside0.mk H
    clear H
    go_enter Tryz.func4, Tryz.ntmps4
    go_wp2_with (first | ((with_reducible refine gate_callee (f := 16) rfl ?_); refine goesL_ (some 10) rfl rfl Tryz.func16 (by kernel_rfl) rfl #[.slice A0 l0.length c0] rfl (by (try simp only [List.map_toArray, List.map_cons, List.map_nil]); first | done | rfl | (simp only [List.length_drop, List.length_take]; rfl)) ?_; (with_reducible refine (laws_zzFits9.calls k _ _ l0 true _ ?side1 ?side2 A2.out).mono ?_); (case side1 => repeat (first | exact HR0.out | (with_reducible refine Kd.C_alloc ?_ _) | (with_reducible refine Kd.C_drewN ?_ _) | (with_reducible refine Kd.C_drew ?_))); (case side2 => exact HC0.out); rintro e w4 ⟨rfl, hb⟩; refine ⟨_, rfl, ?_⟩; have n0_ := Aside0.mk (below_step (by repeat (first | (with_reducible first | exact HB.out | apply below_alloc | apply pw_below_drewN | apply below_drew1) | exact HB.out)) hb); clear HB; have HB := n0_; clear n0_; (try clear hb); (try clear hb2); (try clear hk); (try clear hi)))
    go_loopg [3, 4, 14] k (fun kq v3 v4 v14 w' => ∃ (x3_1 : List (S45)) (x4_1 : ByteArray) (x14_1 : Int), v4 = .string x4_1 ∧ v14 = .int .i64 x14_1 ∧ Aside0 (laws_FnDrawModes.l0 kq l0 x3_1 x4_1 l0 (l0.length : Int) x14_1 = some r) ∧ Aside0 (kq ≤ k) ∧ Aside0 (Kd.R k45 45 w' w.heap.size (fun _ => True) v3 x3_1) ∧ Aside0 (Below w.heap.size w w'))
    case atStart => exact ⟨(([] : List (S45))), ((⟨#[]⟩ : ByteArray)), (0), (by first | rfl | (simp; done) | (simp [*]; done)), (by first | rfl | (simp; done) | (simp [*]; done)), H', ⟨Nat.le_refl _⟩, ⟨by first | exact Kd.R_nil _ _ _ _ _ | exact Kd.N_nil _ _ _ _ _ | exact Kd.V_nil _ _ _ _ _ | exact Kd.Q_nil _ _ _ _ _ | exact Kd.S_nil _ _ _ _ _⟩, ⟨by repeat (first | (with_reducible first | exact HB.out | apply below_alloc | apply pw_below_drewN | apply below_drew1) | exact HB.out)⟩⟩
    case round =>
      clear H'
      try clear c1
      try clear p2
      try clear c3
      try clear c4
      obtain ⟨x3_1, x4_1, x14_1, rfl, rfl, HA, HK1, HO_3, HB⟩ := hrel
      cases gk with
      | zero => exact absurd HA.out (by simp [laws_FnDrawModes.l0])
      | succ k1 =>
        have H := HA.out
        clear HA
        simp only [laws_FnDrawModes.l0] at H
        by_cases c5 : x14_1 < (l0.length : Int)
        · rw [if_pos c5] at H
          have c5b0 : decide (x14_1 < (l0.length : Int)) = true := decide_eq_true c5
          clear c5
          by_cases c6 : 0 ≤ x14_1
          · rw [if_pos c6] at H
            have c6b0 : decide (0 ≤ x14_1) = true := decide_eq_true c6
            clear c6
            by_cases c7 : x14_1 < (l0.length : Int)
            · rw [if_pos c7] at H
              have c7b0 : decide (x14_1 < (l0.length : Int)) = true := decide_eq_true c7
              clear c7
              have HC8 := Aside0.mk H
              clear H
              have p301 : 0 ≤ (x14_1 : Int) := of_decide_eq_true (by first | (with_reducible assumption) | assumption)
              have q301 : x14_1 < (l0.length : Int) := of_decide_eq_true (by first | (with_reducible assumption) | assumption)
              obtain ⟨ad301, A301_1, c301_1, e301, hx301_0, hx301_1, hl301_1, hi301_1⟩ := at_T43 HR0.out x14_1 p301 q301
              cases e301
              replace hx301_0 := (HB.out.cell (World.block_lt_of_cell? w _ hx301_0)).trans hx301_0
              replace hx301_1 := (HB.out.cell (World.block_lt_of_cell? w _ hx301_1)).trans hx301_1
              have HR301_1 := Aside0.mk hi301_1
              have HC301_1 := Aside0.mk hl301_1
              clear hi301_1 hl301_1
              replace p301 := eq_true p301
              replace q301 := eq_true q301
              go_upto_region 8 with (first | ((with_reducible refine gate_dst (N := 6) rfl ?_); (try (refine gate_guard (by rfl) ?_; dsimp only)); refine box_event ?hg (N := 6) ?hd (cs := #[.bool false, .slice none 0 0]) (t := 43) ?hr ?_; (case hd => rfl); (case hg => rfl); (case hr => first | (go_simp; done) | (go_simp; rfl)); intro gb302 hg w9 hbox hb; have n0_ := Aside0.mk (Kd.R_below (by (with_reducible repeat (first | apply Kd.R_alloc | apply Kd.R_drewN | apply Kd.R_drew)); exact HO_3.out) hb); have n1_ := Aside0.mk (below_step (by repeat (first | (with_reducible first | exact HB.out | apply below_alloc | apply pw_below_drewN | apply below_drew1) | exact HB.out)) hb); have n2_ := Aside0.mk (hbox); have n3_ := Aside0.mk ((by rw [hg]; exact (below_size (by repeat (first | (with_reducible first | exact HB.out | apply below_alloc | apply pw_below_drewN | apply below_drew1) | exact HB.out))) : w.heap.size ≤ gb302)); have n4_ := Aside0.mk ((by rw [hg]; exact (below_size (by repeat (first | (with_reducible first | exact HB.out | apply below_alloc | apply pw_below_drewN | apply below_drew1) | exact HB.out))) : w.heap.size ≤ gb302)); clear HO_3; clear HB; have HO_3 := n0_; have HB := n1_; have BK302 := n2_; have GW302 := n3_; have GE302 := n4_; clear n0_ n1_ n2_ n3_ n4_; clear hb hbox hg; have hcz10_0 : w9.cell? ⟨gb302, 0, none⟩ = some (.bool false) := (blk_cell BK302.out 0).trans rfl; have hcz10_1 : w9.cell? ⟨gb302, 1, none⟩ = some (.slice none 0 0) := (blk_cell BK302.out 1).trans rfl; have hfz10_0 := blk_frozen BK302.out 0; have hfz10_1 := blk_frozen BK302.out 1))
              (try simp only [Act.put, List.setIfInBounds_toArray, List.set_cons_zero, List.set_cons_succ])
              go_cut [27] (fun v27 wc => ∃ (kq : Nat) (x27_7 : Bool), v27 = .bool x27_7 ∧ Aside0 (laws_FnDrawModes.j1 kq l0 x3_1 x4_1 l0 (l0.length : Int) x14_1 x27_7 ((rd_T43 l0 x14_1).f0) ((rd_T43 l0 x14_1).f1) = some r) ∧ Aside0 (kq ≤ k1) ∧ Aside0 (Kd.R k45 45 wc w.heap.size (fun _ => True) u3 x3_1) ∧ Aside0 (wc.heap[gb302]? = some (.cells #[.bool ((rd_T43 l0 x14_1).f0), (.slice A301_1 ((rd_T43 l0 x14_1).f1).length c301_1)] 43 (0, 0))) ∧ Aside0 (Below w.heap.size w wc))
              case first =>
                have H := HC8.out
                clear HC8
                by_cases c11 : (((rd_T43 l0 x14_1).f1).length : Int) < 1
                · rw [if_pos c11] at H
                  have c11b0 : decide ((((rd_T43 l0 x14_1).f1).length : Int) < 1) = true := decide_eq_true c11
                  have c11b1 : decide (((rd_T43 l0 x14_1).f1).length < 1) = true := decide_eq_true (by omega)
                  clear c11
                  (first | rw [c11b0] | (simp only [i64_w, i32_w]; rw [c11b0]) | skip)
                  have H' := Aside0.mk H
                  clear H
                  have hcz12_0 : w9.cell? ⟨gb302, 0, none⟩ = some (.bool false) := (blk_cell BK302.out 0).trans rfl
                  have hcz12_1 : w9.cell? ⟨gb302, 1, none⟩ = some (.slice none 0 0) := (blk_cell BK302.out 1).trans rfl
                  have hfz12_0 := blk_frozen BK302.out 0
                  have hfz12_1 := blk_frozen BK302.out 1
                  go_wp2
                  go_meet
                  case rel => exact ⟨_, (true), (by first | rfl | (simp; done) | (simp [*]; done)), H', ⟨by have := HK1.out; first | omega | exact Nat.le_refl _⟩, ⟨by (with_reducible repeat (first | apply Kd.R_alloc | apply Kd.R_drewN | apply Kd.R_drew)); exact Kd.R_mono (Kd.R_far (p := ⟨gb302, 1, none⟩) (Kd.R_far (p := ⟨gb302, 0, none⟩) (Kd.R_types HO_3.out BK302.out (by decide)) (fun _ hk => hk.2) (.bool ((rd_T43 l0 x14_1).f0))) (fun _ hk => hk.2) (.slice A301_1 ((rd_T43 l0 x14_1).f1).length c301_1)) (fun _ hk => trivial)⟩, ⟨by (with_reducible repeat (first | refine blk_drewN ?_ _ | refine blk_drew ?_ | refine blk_alloc ?_ _)); refine blk_put (cs := #[.bool ((rd_T43 l0 x14_1).f0), .slice none 0 0]) ?_ 1 _ rfl; (with_reducible repeat (first | refine blk_drewN ?_ _ | refine blk_drew ?_ | refine blk_alloc ?_ _)); refine blk_put (cs := #[.bool false, .slice none 0 0]) ?_ 0 _ rfl; (with_reducible repeat (first | refine blk_drewN ?_ _ | refine blk_drew ?_ | refine blk_alloc ?_ _)); exact BK302.out⟩, ⟨by repeat (first | (with_reducible first | exact HB.out | apply below_alloc | apply pw_below_drewN | apply below_drew1 | refine below_set ?_ GE302.out) | exact HB.out)⟩⟩
                · rw [if_neg c11] at H
                  have c11b0 : decide ((((rd_T43 l0 x14_1).f1).length : Int) < 1) = false := decide_eq_false c11
                  have c11b1 : decide (((rd_T43 l0 x14_1).f1).length < 1) = false := decide_eq_false (by omega)
                  clear c11
                  (first | rw [c11b0] | (simp only [i64_w, i32_w]; rw [c11b0]) | skip)
                  have H' := Aside0.mk H
                  clear H
                  have hcz13_0 : w9.cell? ⟨gb302, 0, none⟩ = some (.bool false) := (blk_cell BK302.out 0).trans rfl
                  have hcz13_1 : w9.cell? ⟨gb302, 1, none⟩ = some (.slice none 0 0) := (blk_cell BK302.out 1).trans rfl
                  have hfz13_0 := blk_frozen BK302.out 0
                  have hfz13_1 := blk_frozen BK302.out 1
                  go_wp2
                  go_meet
                  case rel => exact ⟨_, (decide ((((rd_T43 l0 x14_1).f1).length : Int) > 4)), (by first | rfl | (simp; done) | (simp [*]; done)), H', ⟨by have := HK1.out; first | omega | exact Nat.le_refl _⟩, ⟨by (with_reducible repeat (first | apply Kd.R_alloc | apply Kd.R_drewN | apply Kd.R_drew)); exact Kd.R_mono (Kd.R_far (p := ⟨gb302, 1, none⟩) (Kd.R_far (p := ⟨gb302, 0, none⟩) (Kd.R_types HO_3.out BK302.out (by decide)) (fun _ hk => hk.2) (.bool ((rd_T43 l0 x14_1).f0))) (fun _ hk => hk.2) (.slice A301_1 ((rd_T43 l0 x14_1).f1).length c301_1)) (fun _ hk => trivial)⟩, ⟨by (with_reducible repeat (first | refine blk_drewN ?_ _ | refine blk_drew ?_ | refine blk_alloc ?_ _)); refine blk_put (cs := #[.bool ((rd_T43 l0 x14_1).f0), .slice none 0 0]) ?_ 1 _ rfl; (with_reducible repeat (first | refine blk_drewN ?_ _ | refine blk_drew ?_ | refine blk_alloc ?_ _)); refine blk_put (cs := #[.bool false, .slice none 0 0]) ?_ 0 _ rfl; (with_reducible repeat (first | refine blk_drewN ?_ _ | refine blk_drew ?_ | refine blk_alloc ?_ _)); exact BK302.out⟩, ⟨by repeat (first | (with_reducible first | exact HB.out | apply below_alloc | apply pw_below_drewN | apply below_drew1 | refine below_set ?_ GE302.out) | exact HB.out)⟩⟩
              case rest => as_aux_lemma =>
                clear HC8
                try clear c1
                try clear p2
                try clear c3
                try clear p3
                try clear q3
                try clear hx3
                try clear c4
                try clear c5
                try clear c5b0
                try clear c6
                try clear c6b0
                try clear c7
                try clear c7b0
                try clear c11
                try clear c11b0
                try clear c11b1
                try clear hcz10_0
                try clear hcz10_1
                try clear hcz12_0
                try clear hcz12_1
                try clear hcz13_0
                try clear hcz13_1
                try clear hfz10_0
                try clear hfz10_1
                try clear hfz12_0
                try clear hfz12_1
                try clear hfz13_0
                try clear hfz13_1
                try clear hx301_0
                try clear hx301_1
                try clear p2
                try clear p301
                try clear q301
                obtain ⟨kq, x27_7, rfl, HA, HJ7, HO_3, BK302, HB⟩ := hcut
                cases kq with
                | zero => exact absurd HA.out (by simp [laws_FnDrawModes.j1])
                | succ kj7 =>
                  have H := HA.out
                  clear HA
                  simp only [laws_FnDrawModes.j1] at H
                  by_cases c14 : x27_7 = true
                  · subst c14
                    have H1 : ((laws_drawAwake.f).bind fun t303 => (some t303)) = some r := by rw [if_pos rfl] at H; exact H
                    clear H
                    have H := H1
                    clear H1
                    replace H := Option.bind_eq_some_iff.mp H
                    obtain ⟨t303, A150, H⟩ := H
                    replace H : (some t303) = some r := H
                    have A15 := Aside0.mk A150
                    clear A150
                    obtain rfl := Option.some.inj H
                    go_wp2_with (first | ((with_reducible refine gate_callee (f := 8) rfl ?_); refine goesL_ (some 28) rfl rfl Tryz.func8 (by kernel_rfl) rfl #[] rfl (by (try simp only [List.map_toArray, List.map_cons, List.map_nil]); first | done | rfl | (simp only [List.length_drop, List.length_take]; rfl)) ?_; (with_reducible refine (laws_drawAwake.calls  t303 _ ?side1 A15.out).mono ?_); (case side1 => exact XTab.below HT.out (by repeat (first | (with_reducible first | exact HB.out | apply below_alloc | apply pw_below_drewN | apply below_drew1 | refine below_set ?_ GE302.out) | exact HB.out))); rintro e w16 ⟨rfl, hb⟩; refine ⟨_, rfl, ?_⟩; have n0_ := Aside0.mk (Kd.R_below (by (with_reducible repeat (first | apply Kd.R_alloc | apply Kd.R_drewN | apply Kd.R_drew)); exact HO_3.out) hb); have n1_ := Aside0.mk (blk_below (g := gb302) (o := .cells #[.bool ((rd_T43 l0 x14_1).f0), .slice A301_1 ((rd_T43 l0 x14_1).f1).length c301_1] 43 (0, 0)) (by (with_reducible repeat (first | refine blk_drewN ?_ _ | refine blk_drew ?_ | refine blk_alloc ?_ _)); exact BK302.out) hb); have n2_ := Aside0.mk (below_step (by repeat (first | (with_reducible first | exact HB.out | apply below_alloc | apply pw_below_drewN | apply below_drew1 | refine below_set ?_ GE302.out) | exact HB.out)) hb); clear HO_3; clear BK302; clear HB; have HO_3 := n0_; have BK302 := n1_; have HB := n2_; clear n0_ n1_ n2_; (try clear hb); (try clear hb2); (try clear hk); (try clear hi)))
                    go_ret
                    exact ⟨by first | rfl | (simp [errW_none, errW_some] <;> rfl) | (simp [*, errW_none, errW_some] <;> rfl), by repeat (first | (with_reducible first | exact HB.out | apply below_alloc | apply pw_below_drewN | apply below_drew1 | refine below_set ?_ GE302.out) | exact HB.out)⟩
                  · replace c14 := Bool.eq_false_iff.mpr c14
                    subst c14
                    have H1 : (laws_FnDrawModes.l1 kj7 l0 x3_1 x4_1 l0 (l0.length : Int) x14_1 ((rd_T43 l0 x14_1).f1) (((rd_T43 l0 x14_1).f1).length : Int) 0 ((rd_T43 l0 x14_1).f0) ((rd_T43 l0 x14_1).f1)) = some r := by rw [if_neg (show ¬ (false = true) by decide)] at H; exact H
                    clear H
                    have H := H1
                    clear H1
                    have H' := Aside0.mk H
                    clear H
                    have hcz17_0 : wc.cell? ⟨gb302, 0, none⟩ = some (.bool ((rd_T43 l0 x14_1).f0)) := (blk_cell BK302.out 0).trans rfl
                    have hcz17_1 : wc.cell? ⟨gb302, 1, none⟩ = some (.slice A301_1 ((rd_T43 l0 x14_1).f1).length c301_1) := (blk_cell BK302.out 1).trans rfl
                    have hfz17_0 := blk_frozen BK302.out 0
                    have hfz17_1 := blk_frozen BK302.out 1
                    go_wp2
                    go_loopg [3, 32] kj7 (fun kq v3 v32 w' => ∃ (x3_3 : List (S45)) (x32_3 : Int), v32 = .int .i64 x32_3 ∧ Aside0 (laws_FnDrawModes.l1 kq l0 x3_3 x4_1 l0 (l0.length : Int) x14_1 ((rd_T43 l0 x14_1).f1) (((rd_T43 l0 x14_1).f1).length : Int) x32_3 ((rd_T43 l0 x14_1).f0) ((rd_T43 l0 x14_1).f1) = some r) ∧ Aside0 (kq ≤ kj7) ∧ Aside0 (Kd.R k45 45 w' w.heap.size (fun _ => True) v3 x3_3) ∧ Aside0 (w'.heap[gb302]? = some (.cells #[.bool ((rd_T43 l0 x14_1).f0), (.slice A301_1 ((rd_T43 l0 x14_1).f1).length c301_1)] 43 (0, 0))) ∧ Aside0 (Below w.heap.size w w'))
                    case atStart => exact ⟨(x3_1), (0), (by first | rfl | (simp; done) | (simp [*]; done)), H', ⟨Nat.le_refl _⟩, ⟨by (with_reducible repeat (first | apply Kd.R_alloc | apply Kd.R_drewN | apply Kd.R_drew)); exact HO_3.out⟩, ⟨by (with_reducible repeat (first | refine blk_drewN ?_ _ | refine blk_drew ?_ | refine blk_alloc ?_ _)); exact BK302.out⟩, ⟨by repeat (first | (with_reducible first | exact HB.out | apply below_alloc | apply pw_below_drewN | apply below_drew1 | refine below_set ?_ GE302.out) | exact HB.out)⟩⟩
                    case round =>
                      clear H'
                      try clear c1
                      try clear p2
                      try clear c3
                      try clear p3
                      try clear q3
                      try clear hx3
                      try clear c4
                      try clear c5
                      try clear c5b0
                      try clear c6
                      try clear c6b0
                      try clear c7
                      try clear c7b0
                      try clear c8
                      try clear c11
                      try clear c11b0
                      try clear c11b1
                      try clear c14
                      try clear c16
                      try clear hcz10_0
                      try clear hcz10_1
                      try clear hcz12_0
                      try clear hcz12_1
                      try clear hcz13_0
                      try clear hcz13_1
                      try clear hcz17_0
                      try clear hcz17_1
                      try clear hfz10_0
                      try clear hfz10_1
                      try clear hfz12_0
                      try clear hfz12_1
                      try clear hfz13_0
                      try clear hfz13_1
                      try clear hfz17_0
                      try clear hfz17_1
                      try clear hx301_0
                      try clear hx301_1
                      try clear p2
                      try clear p3
                      try clear p301
                      try clear q3
                      try clear q301
                      obtain ⟨x3_3, x32_3, rfl, HA, HK3, HO_3, BK302, HB⟩ := hrel
                      cases gk with
                      | zero => exact absurd HA.out (by simp [laws_FnDrawModes.l1])
                      | succ k3 =>
                        have H := HA.out
                        clear HA
                        simp only [laws_FnDrawModes.l1] at H
                        by_cases c18 : x32_3 < (((rd_T43 l0 x14_1).f1).length : Int)
                        · rw [if_pos c18] at H
                          have c18b0 : decide (x32_3 < (((rd_T43 l0 x14_1).f1).length : Int)) = true := decide_eq_true c18
                          clear c18
                          by_cases c19 : 0 ≤ x32_3
                          · rw [if_pos c19] at H
                            have c19b0 : decide (0 ≤ x32_3) = true := decide_eq_true c19
                            clear c19
                            by_cases c20 : x32_3 < (((rd_T43 l0 x14_1).f1).length : Int)
                            · rw [if_pos c20] at H
                              have c20b0 : decide (x32_3 < (((rd_T43 l0 x14_1).f1).length : Int)) = true := decide_eq_true c20
                              clear c20
                              have HC21 := Aside0.mk H
                              clear H
                              have p304 : 0 ≤ (x32_3 : Int) := of_decide_eq_true (by first | (with_reducible assumption) | assumption)
                              have q304 : x32_3 < (((rd_T43 l0 x14_1).f1).length : Int) := of_decide_eq_true (by first | (with_reducible assumption) | assumption)
                              obtain ⟨ad304, e304, hx304_0, hx304_1⟩ := at_T23 HR301_1.out x32_3 p304 q304
                              cases e304
                              replace hx304_0 := (HB.out.cell (World.block_lt_of_cell? w _ hx304_0)).trans hx304_0
                              replace hx304_1 := (HB.out.cell (World.block_lt_of_cell? w _ hx304_1)).trans hx304_1
                              replace p304 := eq_true p304
                              replace q304 := eq_true q304
                              go_upto_region 13 with (first | ((with_reducible refine gate_dst (N := 8) rfl ?_); (try (refine gate_guard (by rfl) ?_; dsimp only)); refine box_event ?hg (N := 8) ?hd (cs := #[.bool false, .int .i64 0]) (t := 23) ?hr ?_; (case hd => rfl); (case hg => rfl); (case hr => first | (go_simp; done) | (go_simp; rfl)); intro gb305 hg w22 hbox hb; have n0_ := Aside0.mk (Kd.R_below (by (with_reducible repeat (first | apply Kd.R_alloc | apply Kd.R_drewN | apply Kd.R_drew)); exact HO_3.out) hb); have n1_ := Aside0.mk (blk_below (g := gb302) (o := .cells #[.bool ((rd_T43 l0 x14_1).f0), .slice (some ad304) ((rd_T43 l0 x14_1).f1).length c301_1] 43 (0, 0)) (by (with_reducible repeat (first | refine blk_drewN ?_ _ | refine blk_drew ?_ | refine blk_alloc ?_ _)); exact BK302.out) hb); have n2_ := Aside0.mk (below_step (by repeat (first | (with_reducible first | exact HB.out | apply below_alloc | apply pw_below_drewN | apply below_drew1 | refine below_set ?_ GE302.out) | exact HB.out)) hb); have n3_ := Aside0.mk (hbox); have n4_ := Aside0.mk ((by rw [hg]; exact (below_size (by repeat (first | (with_reducible first | exact HB.out | apply below_alloc | apply pw_below_drewN | apply below_drew1 | refine below_set ?_ GE302.out) | exact HB.out))) : w.heap.size ≤ gb305)); have n5_ := Aside0.mk ((by rw [hg]; exact (below_size (by repeat (first | (with_reducible first | exact HB.out | apply below_alloc | apply pw_below_drewN | apply below_drew1 | refine below_set ?_ GE302.out) | exact HB.out))) : w.heap.size ≤ gb305)); have n6_ := Aside0.mk ((by rw [hg]; exact Nat.ne_of_lt (blk_lt (g := gb302) (o := .cells #[.bool ((rd_T43 l0 x14_1).f0), .slice (some ad304) ((rd_T43 l0 x14_1).f1).length c301_1] 43 (0, 0)) (by (with_reducible repeat (first | refine blk_drewN ?_ _ | refine blk_drew ?_ | refine blk_alloc ?_ _)); exact BK302.out)) : gb302 ≠ gb305)); have n7_ := Aside0.mk ((by rw [hg]; exact Nat.ne_of_gt (blk_lt (g := gb302) (o := .cells #[.bool ((rd_T43 l0 x14_1).f0), .slice (some ad304) ((rd_T43 l0 x14_1).f1).length c301_1] 43 (0, 0)) (by (with_reducible repeat (first | refine blk_drewN ?_ _ | refine blk_drew ?_ | refine blk_alloc ?_ _)); exact BK302.out)) : gb305 ≠ gb302)); clear HO_3; clear BK302; clear HB; have HO_3 := n0_; have BK302 := n1_; have HB := n2_; have BK305 := n3_; have GW305 := n4_; have GE305 := n5_; have NB302_305 := n6_; have NB305_302 := n7_; clear n0_ n1_ n2_ n3_ n4_ n5_ n6_ n7_; clear hb hbox hg; have hnb23 := NB305_302.out; have hnc23 := NB302_305.out; have hcz24_0 : w22.cell? ⟨gb305, 0, none⟩ = some (.bool false) := (blk_cell BK305.out 0).trans rfl; have hcz24_1 : w22.cell? ⟨gb305, 1, none⟩ = some (.int .i64 0) := (blk_cell BK305.out 1).trans rfl; have hfz24_0 := blk_frozen BK305.out 0; have hfz24_1 := blk_frozen BK305.out 1))
                              (try simp only [Act.put, List.setIfInBounds_toArray, List.set_cons_zero, List.set_cons_succ])
                              go_cut [43] (fun v43 wc => ∃ (kq : Nat) (x43_20 : Bool), v43 = .bool x43_20 ∧ Aside0 (laws_FnDrawModes.j3 kq l0 x3_3 x4_1 l0 (l0.length : Int) x14_1 ((rd_T43 l0 x14_1).f1) (((rd_T43 l0 x14_1).f1).length : Int) x32_3 x43_20 ((rd_T43 l0 x14_1).f0) ((rd_T43 l0 x14_1).f1) ((rd_T23 ((rd_T43 l0 x14_1).f1) x32_3).f0) ((rd_T23 ((rd_T43 l0 x14_1).f1) x32_3).f1) = some r) ∧ Aside0 (kq ≤ k3) ∧ Aside0 (Kd.R k45 45 wc w.heap.size (fun _ => True) u3 x3_3) ∧ Aside0 (wc.heap[gb302]? = some (.cells #[.bool ((rd_T43 l0 x14_1).f0), (.slice (some ad304) ((rd_T43 l0 x14_1).f1).length c301_1)] 43 (0, 0))) ∧ Aside0 (wc.heap[gb305]? = some (.cells #[.bool ((rd_T23 ((rd_T43 l0 x14_1).f1) x32_3).f0), .int .i64 ((rd_T23 ((rd_T43 l0 x14_1).f1) x32_3).f1)] 23 (0, 0))) ∧ Aside0 (Below w.heap.size w wc))
                              case first =>
                                have H := HC21.out
                                clear HC21
                                by_cases c25 : ((rd_T23 ((rd_T43 l0 x14_1).f1) x32_3).f1) < 1
                                · rw [if_pos c25] at H
                                  have c25b0 : decide (((rd_T23 ((rd_T43 l0 x14_1).f1) x32_3).f1) < 1) = true := decide_eq_true c25
                                  clear c25
                                  (first | rw [c25b0] | (simp only [i64_w, i32_w]; rw [c25b0]) | skip)
                                  have H' := Aside0.mk H
                                  clear H
                                  have hnb26 := NB305_302.out
                                  have hnc26 := NB302_305.out
                                  have hcz27_0 : w22.cell? ⟨gb305, 0, none⟩ = some (.bool false) := (blk_cell BK305.out 0).trans rfl
                                  have hcz27_1 : w22.cell? ⟨gb305, 1, none⟩ = some (.int .i64 0) := (blk_cell BK305.out 1).trans rfl
                                  have hfz27_0 := blk_frozen BK305.out 0
                                  have hfz27_1 := blk_frozen BK305.out 1
                                  go_wp2
                                  go_meet
                                  case rel => exact ⟨_, (true), (by first | rfl | (simp; done) | (simp [*]; done)), H', ⟨by have := HK1.out; have := HJ7.out; have := HK3.out; first | omega | exact Nat.le_refl _⟩, ⟨by (with_reducible repeat (first | apply Kd.R_alloc | apply Kd.R_drewN | apply Kd.R_drew)); exact Kd.R_mono (Kd.R_far (p := ⟨gb305, 1, none⟩) (Kd.R_far (p := ⟨gb305, 0, none⟩) (Kd.R_types HO_3.out BK305.out (by decide)) (fun _ hk => hk.2) (.bool ((rd_T23 ((rd_T43 l0 x14_1).f1) x32_3).f0))) (fun _ hk => hk.2) (.int .i64 ((rd_T23 ((rd_T43 l0 x14_1).f1) x32_3).f1))) (fun _ hk => trivial)⟩, ⟨by (with_reducible repeat (first | refine blk_drewN ?_ _ | refine blk_drew ?_ | refine blk_alloc ?_ _)); refine blk_far ?_ NB302_305.out _; (with_reducible repeat (first | refine blk_drewN ?_ _ | refine blk_drew ?_ | refine blk_alloc ?_ _)); refine blk_far ?_ NB302_305.out _; (with_reducible repeat (first | refine blk_drewN ?_ _ | refine blk_drew ?_ | refine blk_alloc ?_ _)); exact BK302.out⟩, ⟨by (with_reducible repeat (first | refine blk_drewN ?_ _ | refine blk_drew ?_ | refine blk_alloc ?_ _)); refine blk_put (cs := #[.bool ((rd_T23 ((rd_T43 l0 x14_1).f1) x32_3).f0), .int .i64 0]) ?_ 1 _ rfl; (with_reducible repeat (first | refine blk_drewN ?_ _ | refine blk_drew ?_ | refine blk_alloc ?_ _)); refine blk_put (cs := #[.bool false, .int .i64 0]) ?_ 0 _ rfl; (with_reducible repeat (first | refine blk_drewN ?_ _ | refine blk_drew ?_ | refine blk_alloc ?_ _)); exact BK305.out⟩, ⟨by repeat (first | (with_reducible first | exact HB.out | apply below_alloc | apply pw_below_drewN | apply below_drew1 | refine below_set ?_ GE302.out | refine below_set ?_ GE305.out) | exact HB.out)⟩⟩
                                · rw [if_neg c25] at H
                                  have c25b0 : decide (((rd_T23 ((rd_T43 l0 x14_1).f1) x32_3).f1) < 1) = false := decide_eq_false c25
                                  clear c25
                                  (first | rw [c25b0] | (simp only [i64_w, i32_w]; rw [c25b0]) | skip)
                                  have H' := Aside0.mk H
                                  clear H
                                  have hnb28 := NB305_302.out
                                  have hnc28 := NB302_305.out
                                  have hcz29_0 : w22.cell? ⟨gb305, 0, none⟩ = some (.bool false) := (blk_cell BK305.out 0).trans rfl
                                  have hcz29_1 : w22.cell? ⟨gb305, 1, none⟩ = some (.int .i64 0) := (blk_cell BK305.out 1).trans rfl
                                  have hfz29_0 := blk_frozen BK305.out 0
                                  have hfz29_1 := blk_frozen BK305.out 1
                                  go_wp2
                                  go_meet
                                  case rel => exact ⟨_, (decide (((rd_T23 ((rd_T43 l0 x14_1).f1) x32_3).f1) > 9999)), (by first | rfl | (simp; done) | (simp [*]; done)), H', ⟨by have := HK1.out; have := HJ7.out; have := HK3.out; first | omega | exact Nat.le_refl _⟩, ⟨by (with_reducible repeat (first | apply Kd.R_alloc | apply Kd.R_drewN | apply Kd.R_drew)); exact Kd.R_mono (Kd.R_far (p := ⟨gb305, 1, none⟩) (Kd.R_far (p := ⟨gb305, 0, none⟩) (Kd.R_types HO_3.out BK305.out (by decide)) (fun _ hk => hk.2) (.bool ((rd_T23 ((rd_T43 l0 x14_1).f1) x32_3).f0))) (fun _ hk => hk.2) (.int .i64 ((rd_T23 ((rd_T43 l0 x14_1).f1) x32_3).f1))) (fun _ hk => trivial)⟩, ⟨by (with_reducible repeat (first | refine blk_drewN ?_ _ | refine blk_drew ?_ | refine blk_alloc ?_ _)); refine blk_far ?_ NB302_305.out _; (with_reducible repeat (first | refine blk_drewN ?_ _ | refine blk_drew ?_ | refine blk_alloc ?_ _)); refine blk_far ?_ NB302_305.out _; (with_reducible repeat (first | refine blk_drewN ?_ _ | refine blk_drew ?_ | refine blk_alloc ?_ _)); exact BK302.out⟩, ⟨by (with_reducible repeat (first | refine blk_drewN ?_ _ | refine blk_drew ?_ | refine blk_alloc ?_ _)); refine blk_put (cs := #[.bool ((rd_T23 ((rd_T43 l0 x14_1).f1) x32_3).f0), .int .i64 0]) ?_ 1 _ rfl; (with_reducible repeat (first | refine blk_drewN ?_ _ | refine blk_drew ?_ | refine blk_alloc ?_ _)); refine blk_put (cs := #[.bool false, .int .i64 0]) ?_ 0 _ rfl; (with_reducible repeat (first | refine blk_drewN ?_ _ | refine blk_drew ?_ | refine blk_alloc ?_ _)); exact BK305.out⟩, ⟨by repeat (first | (with_reducible first | exact HB.out | apply below_alloc | apply pw_below_drewN | apply below_drew1 | refine below_set ?_ GE302.out | refine below_set ?_ GE305.out) | exact HB.out)⟩⟩
                              case rest => as_aux_lemma =>
                                clear HC21
                                try clear c1
                                try clear c2
                                try clear p2
                                try clear c3
                                try clear p3
                                try clear q3
                                try clear hx3
                                try clear c4
                                try clear c5
                                try clear c5b0
                                try clear c6
                                try clear c6b0
                                try clear c7
                                try clear c7b0
                                try clear c8
                                try clear c11
                                try clear c11b0
                                try clear c11b1
                                try clear c14
                                try clear c16
                                try clear c18
                                try clear c18b0
                                try clear c19
                                try clear c19b0
                                try clear c20
                                try clear c20b0
                                try clear c23
                                try clear c25
                                try clear c25b0
                                try clear c26
                                try clear c28
                                try clear hcz10_0
                                try clear hcz10_1
                                try clear hcz12_0
                                try clear hcz12_1
                                try clear hcz13_0
                                try clear hcz13_1
                                try clear hcz17_0
                                try clear hcz17_1
                                try clear hcz24_0
                                try clear hcz24_1
                                try clear hcz27_0
                                try clear hcz27_1
                                try clear hcz29_0
                                try clear hcz29_1
                                try clear hfz10_0
                                try clear hfz10_1
                                try clear hfz12_0
                                try clear hfz12_1
                                try clear hfz13_0
                                try clear hfz13_1
                                try clear hfz17_0
                                try clear hfz17_1
                                try clear hfz24_0
                                try clear hfz24_1
                                try clear hfz27_0
                                try clear hfz27_1
                                try clear hfz29_0
                                try clear hfz29_1
                                try clear hx301_0
                                try clear hx301_1
                                try clear hx304_0
                                try clear hx304_1
                                try clear p2
                                try clear p3
                                try clear p301
                                try clear p304
                                try clear q3
                                try clear q301
                                try clear q304
                                obtain ⟨kq, x43_20, rfl, HA, HJ20, HO_3, BK302, BK305, HB⟩ := hcut
                                cases kq with
                                | zero => exact absurd HA.out (by simp [laws_FnDrawModes.j3])
                                | succ kj20 =>
                                  have H := HA.out
                                  clear HA
                                  simp only [laws_FnDrawModes.j3] at H
                                  by_cases c30 : x43_20 = true
                                  · subst c30
                                    have H1 : ((laws_drawAwake.f).bind fun t306 => (some t306)) = some r := by rw [if_pos rfl] at H; exact H
                                    clear H
                                    have H := H1
                                    clear H1
                                    replace H := Option.bind_eq_some_iff.mp H
                                    obtain ⟨t306, A310, H⟩ := H
                                    replace H : (some t306) = some r := H
                                    have A31 := Aside0.mk A310
                                    clear A310
                                    obtain rfl := Option.some.inj H
                                    go_wp2_with (first | ((with_reducible refine gate_callee (f := 8) rfl ?_); refine goesL_ (some 44) rfl rfl Tryz.func8 (by kernel_rfl) rfl #[] rfl (by (try simp only [List.map_toArray, List.map_cons, List.map_nil]); first | done | rfl | (simp only [List.length_drop, List.length_take]; rfl)) ?_; (with_reducible refine (laws_drawAwake.calls  t306 _ ?side1 A31.out).mono ?_); (case side1 => exact XTab.below HT.out (by repeat (first | (with_reducible first | exact HB.out | apply below_alloc | apply pw_below_drewN | apply below_drew1 | refine below_set ?_ GE302.out | refine below_set ?_ GE305.out) | exact HB.out))); rintro e w32 ⟨rfl, hb⟩; refine ⟨_, rfl, ?_⟩; have n0_ := Aside0.mk (Kd.R_below (by (with_reducible repeat (first | apply Kd.R_alloc | apply Kd.R_drewN | apply Kd.R_drew)); exact HO_3.out) hb); have n1_ := Aside0.mk (blk_below (g := gb302) (o := .cells #[.bool ((rd_T43 l0 x14_1).f0), .slice (some ad304) ((rd_T43 l0 x14_1).f1).length c301_1] 43 (0, 0)) (by (with_reducible repeat (first | refine blk_drewN ?_ _ | refine blk_drew ?_ | refine blk_alloc ?_ _)); exact BK302.out) hb); have n2_ := Aside0.mk (blk_below (g := gb305) (o := .cells #[.bool ((rd_T23 ((rd_T43 l0 x14_1).f1) x32_3).f0), .int .i64 ((rd_T23 ((rd_T43 l0 x14_1).f1) x32_3).f1)] 23 (0, 0)) (by (with_reducible repeat (first | refine blk_drewN ?_ _ | refine blk_drew ?_ | refine blk_alloc ?_ _)); exact BK305.out) hb); have n3_ := Aside0.mk (below_step (by repeat (first | (with_reducible first | exact HB.out | apply below_alloc | apply pw_below_drewN | apply below_drew1 | refine below_set ?_ GE302.out | refine below_set ?_ GE305.out) | exact HB.out)) hb); clear HO_3; clear BK302; clear BK305; clear HB; have HO_3 := n0_; have BK302 := n1_; have BK305 := n2_; have HB := n3_; clear n0_ n1_ n2_ n3_; (try clear hb); (try clear hb2); (try clear hk); (try clear hi)))
                                    go_ret
                                    exact ⟨by first | rfl | (simp [errW_none, errW_some] <;> rfl) | (simp [*, errW_none, errW_some] <;> rfl), by repeat (first | (with_reducible first | exact HB.out | apply below_alloc | apply pw_below_drewN | apply below_drew1 | refine below_set ?_ GE302.out | refine below_set ?_ GE305.out) | exact HB.out)⟩
                                  · replace c30 := Bool.eq_false_iff.mpr c30
                                    subst c30
                                    have H1 : ((spec_DrawModeWithout.f kj20 x3_3 ((rd_T23 ((rd_T43 l0 x14_1).f1) x32_3).f0) ((rd_T23 ((rd_T43 l0 x14_1).f1) x32_3).f1)).bind fun t307 => (if ((rd_T43 l0 x14_1).f0) = true then (laws_FnDrawModes.l1 kj20 l0 t307 x4_1 l0 (l0.length : Int) x14_1 ((rd_T43 l0 x14_1).f1) (((rd_T43 l0 x14_1).f1).length : Int) (wrap64 (x32_3 + 1)) ((rd_T43 l0 x14_1).f0) ((rd_T43 l0 x14_1).f1)) else (if t307.length < 8796093022208 then (laws_FnDrawModes.l1 kj20 l0 (t307 ++ [(⟨((rd_T23 ((rd_T43 l0 x14_1).f1) x32_3).f0), ((rd_T23 ((rd_T43 l0 x14_1).f1) x32_3).f1)⟩ : S45)]) x4_1 l0 (l0.length : Int) x14_1 ((rd_T43 l0 x14_1).f1) (((rd_T43 l0 x14_1).f1).length : Int) (wrap64 (x32_3 + 1)) ((rd_T43 l0 x14_1).f0) ((rd_T43 l0 x14_1).f1)) else (none)))) = some r := by rw [if_neg (show ¬ (false = true) by decide)] at H; exact H
                                    clear H
                                    have H := H1
                                    clear H1
                                    replace H := Option.bind_eq_some_iff.mp H
                                    obtain ⟨t307, A330, H⟩ := H
                                    replace H : (if ((rd_T43 l0 x14_1).f0) = true then (laws_FnDrawModes.l1 kj20 l0 t307 x4_1 l0 (l0.length : Int) x14_1 ((rd_T43 l0 x14_1).f1) (((rd_T43 l0 x14_1).f1).length : Int) (wrap64 (x32_3 + 1)) ((rd_T43 l0 x14_1).f0) ((rd_T43 l0 x14_1).f1)) else (if t307.length < 8796093022208 then (laws_FnDrawModes.l1 kj20 l0 (t307 ++ [(⟨((rd_T23 ((rd_T43 l0 x14_1).f1) x32_3).f0), ((rd_T23 ((rd_T43 l0 x14_1).f1) x32_3).f1)⟩ : S45)]) x4_1 l0 (l0.length : Int) x14_1 ((rd_T43 l0 x14_1).f1) (((rd_T43 l0 x14_1).f1).length : Int) (wrap64 (x32_3 + 1)) ((rd_T43 l0 x14_1).f0) ((rd_T43 l0 x14_1).f1)) else (none))) = some r := H
                                    have A33 := Aside0.mk A330
                                    clear A330
                                    by_cases c34 : ((rd_T43 l0 x14_1).f0) = true
                                    · rw [if_pos c34] at H
                                      have c34b0 : ((rd_T43 l0 x14_1).f0) = true := c34
                                      clear c34
                                      have H' := Aside0.mk H
                                      clear H
                                      have hnb35 := NB305_302.out
                                      have hnc35 := NB302_305.out
                                      have hcz36_0 : wc.cell? ⟨gb305, 0, none⟩ = some (.bool ((rd_T23 ((rd_T43 l0 x14_1).f1) x32_3).f0)) := (blk_cell BK305.out 0).trans rfl
                                      have hcz36_1 : wc.cell? ⟨gb305, 1, none⟩ = some (.int .i64 ((rd_T23 ((rd_T43 l0 x14_1).f1) x32_3).f1)) := (blk_cell BK305.out 1).trans rfl
                                      have hfz36_0 := blk_frozen BK305.out 0
                                      have hfz36_1 := blk_frozen BK305.out 1
                                      obtain ⟨Ao37, co37, eo37⟩ := Kd.R_slice HO_3.out
                                      subst eo37
                                      go_wp2_with (first | ((with_reducible refine gate_callee (f := 17) rfl ?_); refine goesL_ (some 47) rfl rfl Tryz.func17 (by kernel_rfl) rfl #[.slice Ao37 x3_3.length co37, .agg #[.bool ((rd_T23 ((rd_T43 l0 x14_1).f1) x32_3).f0), .int .i64 ((rd_T23 ((rd_T43 l0 x14_1).f1) x32_3).f1)]] rfl (by (try simp only [List.map_toArray, List.map_cons, List.map_nil]); first | done | rfl | (simp only [List.length_drop, List.length_take]; rfl)) ?_; (with_reducible refine (spec_DrawModeWithout.calls kj20 _ _ x3_3 ((rd_T23 ((rd_T43 l0 x14_1).f1) x32_3).f0) ((rd_T23 ((rd_T43 l0 x14_1).f1) x32_3).f1) t307 _ ?side1 ?side2 A33.out).mono ?_); (case side1 => repeat (first | exact (Kd.R_reads' HO_3.out).2.2 | (with_reducible refine Kd.C_alloc ?_ _) | (with_reducible refine Kd.C_drewN ?_ _) | (with_reducible refine Kd.C_drew ?_))); (case side2 => exact (Kd.R_reads' HO_3.out).2.1); rintro e w38 ⟨v308, rfl, ho0, hb⟩; refine ⟨_, rfl, ?_⟩; have n0_ := Aside0.mk (Kd.R_elder' (by (with_reducible repeat (first | apply Kd.R_alloc | apply Kd.R_drewN | apply Kd.R_drew)); exact HO_3.out) (Kd.R_base ho0) hb); have n1_ := Aside0.mk (Kd.R_lower (Kd.R_new' ho0 (Kd.R_lt (by (with_reducible repeat (first | apply Kd.R_alloc | apply Kd.R_drewN | apply Kd.R_drew)); exact HO_3.out))) (below_size (by repeat (first | (with_reducible first | exact HB.out | apply below_alloc | apply pw_below_drewN | apply below_drew1 | refine below_set ?_ GE302.out | refine below_set ?_ GE305.out) | exact HB.out)))); have n2_ := Aside0.mk (blk_below (g := gb302) (o := .cells #[.bool ((rd_T43 l0 x14_1).f0), .slice (some ad304) ((rd_T43 l0 x14_1).f1).length c301_1] 43 (0, 0)) (by (with_reducible repeat (first | refine blk_drewN ?_ _ | refine blk_drew ?_ | refine blk_alloc ?_ _)); exact BK302.out) hb); have n3_ := Aside0.mk (blk_below (g := gb305) (o := .cells #[.bool ((rd_T23 ((rd_T43 l0 x14_1).f1) x32_3).f0), .int .i64 ((rd_T23 ((rd_T43 l0 x14_1).f1) x32_3).f1)] 23 (0, 0)) (by (with_reducible repeat (first | refine blk_drewN ?_ _ | refine blk_drew ?_ | refine blk_alloc ?_ _)); exact BK305.out) hb); have n4_ := Aside0.mk (below_step (by repeat (first | (with_reducible first | exact HB.out | apply below_alloc | apply pw_below_drewN | apply below_drew1 | refine below_set ?_ GE302.out | refine below_set ?_ GE305.out) | exact HB.out)) hb); clear HO_3; clear BK302; clear BK305; clear HB; have HO_3 := n0_; have HO309 := n1_; have BK302 := n2_; have BK305 := n3_; have HB := n4_; clear n0_ n1_ n2_ n3_ n4_; (try clear hb); (try clear hb2); (try clear hk); (try clear hi); (try clear ho0); have hcz39_0 : w38.cell? ⟨gb302, 0, none⟩ = some (.bool ((rd_T43 l0 x14_1).f0)) := (blk_cell BK302.out 0).trans rfl; have hcz39_1 : w38.cell? ⟨gb302, 1, none⟩ = some (.slice (some ad304) ((rd_T43 l0 x14_1).f1).length c301_1) := (blk_cell BK302.out 1).trans rfl; have hfz39_0 := blk_frozen BK302.out 0; have hfz39_1 := blk_frozen BK302.out 1))
                                      go_roundg kj20
                                      case measure => have := HK1.out; have := HJ7.out; have := HK3.out; have := HJ20.out; omega
                                      case rel => exact ⟨(t307), (wrap64 (x32_3 + 1)), (by first | rfl | (simp; done) | (simp [*]; done)), H', ⟨by have := HK1.out; have := HJ7.out; have := HK3.out; have := HJ20.out; omega⟩, ⟨by (with_reducible repeat (first | apply Kd.R_alloc | apply Kd.R_drewN | apply Kd.R_drew)); exact Kd.R_mono HO309.out (fun _ hk => trivial)⟩, ⟨by (with_reducible repeat (first | refine blk_drewN ?_ _ | refine blk_drew ?_ | refine blk_alloc ?_ _)); exact BK302.out⟩, ⟨by repeat (first | (with_reducible first | exact HB.out | apply below_alloc | apply pw_below_drewN | apply below_drew1 | refine below_set ?_ GE302.out | refine below_set ?_ GE305.out) | exact HB.out)⟩⟩
                                    · rw [if_neg c34] at H
                                      have c34b0 : ((rd_T43 l0 x14_1).f0) = false := by simpa using c34
                                      clear c34
                                      by_cases c40 : t307.length < 8796093022208
                                      · rw [if_pos c40] at H
                                        have LMc40 := Aside0.mk c40
                                        clear c40
                                        obtain ⟨y310, hy310⟩ : ∃ y_ : List (S45), y_ = (t307 ++ [(⟨((rd_T23 ((rd_T43 l0 x14_1).f1) x32_3).f0), ((rd_T23 ((rd_T43 l0 x14_1).f1) x32_3).f1)⟩ : S45)]) := ⟨_, rfl⟩
                                        replace H : (laws_FnDrawModes.l1 kj20 l0 y310 x4_1 l0 (l0.length : Int) x14_1 ((rd_T43 l0 x14_1).f1) (((rd_T43 l0 x14_1).f1).length : Int) (wrap64 (x32_3 + 1)) ((rd_T43 l0 x14_1).f0) ((rd_T43 l0 x14_1).f1)) = some r := by first | (rw [hy310]; with_reducible exact H) | (have H2_ := (Option.bind_some _ _).symm.trans H; rw [hy310]; with_reducible exact H2_) | (have H2_ := (Option.bind_some _ _).symm.trans H; with_reducible exact H2_) | with_reducible exact H | (rw [hy310]; exact H) | exact H
                                        have Ny310 := Aside0.mk hy310
                                        clear hy310
                                        have H' := Aside0.mk H
                                        clear H
                                        have hnb41 := NB305_302.out
                                        have hnc41 := NB302_305.out
                                        have hcz42_0 : wc.cell? ⟨gb305, 0, none⟩ = some (.bool ((rd_T23 ((rd_T43 l0 x14_1).f1) x32_3).f0)) := (blk_cell BK305.out 0).trans rfl
                                        have hcz42_1 : wc.cell? ⟨gb305, 1, none⟩ = some (.int .i64 ((rd_T23 ((rd_T43 l0 x14_1).f1) x32_3).f1)) := (blk_cell BK305.out 1).trans rfl
                                        have hfz42_0 := blk_frozen BK305.out 0
                                        have hfz42_1 := blk_frozen BK305.out 1
                                        obtain ⟨Ao43, co43, eo43⟩ := Kd.R_slice HO_3.out
                                        subst eo43
                                        go_wp2_with (first | ((with_reducible refine gate_callee (f := 17) rfl ?_); refine goesL_ (some 47) rfl rfl Tryz.func17 (by kernel_rfl) rfl #[.slice Ao43 x3_3.length co43, .agg #[.bool ((rd_T23 ((rd_T43 l0 x14_1).f1) x32_3).f0), .int .i64 ((rd_T23 ((rd_T43 l0 x14_1).f1) x32_3).f1)]] rfl (by (try simp only [List.map_toArray, List.map_cons, List.map_nil]); first | done | rfl | (simp only [List.length_drop, List.length_take]; rfl)) ?_; (with_reducible refine (spec_DrawModeWithout.calls kj20 _ _ x3_3 ((rd_T23 ((rd_T43 l0 x14_1).f1) x32_3).f0) ((rd_T23 ((rd_T43 l0 x14_1).f1) x32_3).f1) t307 _ ?side1 ?side2 A33.out).mono ?_); (case side1 => repeat (first | exact (Kd.R_reads' HO_3.out).2.2 | (with_reducible refine Kd.C_alloc ?_ _) | (with_reducible refine Kd.C_drewN ?_ _) | (with_reducible refine Kd.C_drew ?_))); (case side2 => exact (Kd.R_reads' HO_3.out).2.1); rintro e w44 ⟨v308, rfl, ho0, hb⟩; refine ⟨_, rfl, ?_⟩; have n0_ := Aside0.mk (Kd.R_elder' (by (with_reducible repeat (first | apply Kd.R_alloc | apply Kd.R_drewN | apply Kd.R_drew)); exact HO_3.out) (Kd.R_base ho0) hb); have n1_ := Aside0.mk (Kd.R_lower (Kd.R_new' ho0 (Kd.R_lt (by (with_reducible repeat (first | apply Kd.R_alloc | apply Kd.R_drewN | apply Kd.R_drew)); exact HO_3.out))) (below_size (by repeat (first | (with_reducible first | exact HB.out | apply below_alloc | apply pw_below_drewN | apply below_drew1 | refine below_set ?_ GE302.out | refine below_set ?_ GE305.out) | exact HB.out)))); have n2_ := Aside0.mk (blk_below (g := gb302) (o := .cells #[.bool ((rd_T43 l0 x14_1).f0), .slice (some ad304) ((rd_T43 l0 x14_1).f1).length c301_1] 43 (0, 0)) (by (with_reducible repeat (first | refine blk_drewN ?_ _ | refine blk_drew ?_ | refine blk_alloc ?_ _)); exact BK302.out) hb); have n3_ := Aside0.mk (blk_below (g := gb305) (o := .cells #[.bool ((rd_T23 ((rd_T43 l0 x14_1).f1) x32_3).f0), .int .i64 ((rd_T23 ((rd_T43 l0 x14_1).f1) x32_3).f1)] 23 (0, 0)) (by (with_reducible repeat (first | refine blk_drewN ?_ _ | refine blk_drew ?_ | refine blk_alloc ?_ _)); exact BK305.out) hb); have n4_ := Aside0.mk (below_step (by repeat (first | (with_reducible first | exact HB.out | apply below_alloc | apply pw_below_drewN | apply below_drew1 | refine below_set ?_ GE302.out | refine below_set ?_ GE305.out) | exact HB.out)) hb); clear HO_3; clear BK302; clear BK305; clear HB; have HO_3 := n0_; have HO309 := n1_; have BK302 := n2_; have BK305 := n3_; have HB := n4_; clear n0_ n1_ n2_ n3_ n4_; (try clear hb); (try clear hb2); (try clear hk); (try clear hi); (try clear ho0); have hcz45_0 : w44.cell? ⟨gb302, 0, none⟩ = some (.bool ((rd_T43 l0 x14_1).f0)) := (blk_cell BK302.out 0).trans rfl; have hcz45_1 : w44.cell? ⟨gb302, 1, none⟩ = some (.slice (some ad304) ((rd_T43 l0 x14_1).f1).length c301_1) := (blk_cell BK302.out 1).trans rfl; have hfz45_0 := blk_frozen BK302.out 0; have hfz45_1 := blk_frozen BK302.out 1; have hcz46_0 : w44.cell? ⟨gb305, 0, none⟩ = some (.bool ((rd_T23 ((rd_T43 l0 x14_1).f1) x32_3).f0)) := (blk_cell BK305.out 0).trans rfl; have hcz46_1 : w44.cell? ⟨gb305, 1, none⟩ = some (.int .i64 ((rd_T23 ((rd_T43 l0 x14_1).f1) x32_3).f1)) := (blk_cell BK305.out 1).trans rfl; have hfz46_0 := blk_frozen BK305.out 0; have hfz46_1 := blk_frozen BK305.out 1) | ((with_reducible refine gate_builtin (b := .append) (xs := #[.tmp 51, .tmp 53]) rfl ?_); (try (refine gate_guard (by rfl) ?_; dsimp only)); at_builtin; refine Kd.R_append k45 (w0 := w) w.heap.size rfl (.tmp 51) (.tmp 53) 40 45 (.agg #[(.bool false), (.int .i64 0)]) 16 rfl Tryz.underlying40 info45 rfl (by decide) (by omega) v308 t307 (⟨((rd_T23 ((rd_T43 l0 x14_1).f1) x32_3).f0), ((rd_T23 ((rd_T43 l0 x14_1).f1) x32_3).f1)⟩ : S45) [.bool ((rd_T23 ((rd_T43 l0 x14_1).f1) x32_3).f0), .int .i64 ((rd_T23 ((rd_T43 l0 x14_1).f1) x32_3).f1)] (fun k_ => some k_ ≠ (.slice Ao43 x3_3.length co43 : Value).ownBlock) (fun _ => False) rfl rfl ?aP (fun _ hk => hk.elim) ?aF ?aO ?aB ?aS ?aL ?_; (case aP => exact k45_mkM _ _ _ (⟨((rd_T23 ((rd_T43 l0 x14_1).f1) x32_3).f0), ((rd_T23 ((rd_T43 l0 x14_1).f1) x32_3).f1)⟩ : S45)); (case aB => exact (by repeat (first | (with_reducible first | exact HB.out | apply below_alloc | apply pw_below_drewN | apply below_drew1 | refine below_set ?_ GE302.out | refine below_set ?_ GE305.out) | exact HB.out))); (case aF => exact (fun k_ hk => Kd.fresh' (Kd.R_lt (by (with_reducible repeat (first | apply Kd.R_alloc | apply Kd.R_drewN | apply Kd.R_drew)); exact HO_3.out)) k_ hk)); (case aO => exact (by (with_reducible repeat (first | apply Kd.R_alloc | apply Kd.R_drewN | apply Kd.R_drew)); exact Kd.R_mono HO309.out (fun _ hk => hk.2))); (case aS => exact (below_size (by repeat (first | (with_reducible first | exact HB.out | apply below_alloc | apply pw_below_drewN | apply below_drew1 | refine below_set ?_ GE302.out | refine below_set ?_ GE305.out) | exact HB.out)))); (case aL => have := LMc40.out; omega); intro v311 w47 ho hb hg hat; rw [← Ny310.out] at ho; have n0_ := Aside0.mk (Kd.R_after (ok := (fun _ => True)) (by (with_reducible repeat (first | apply Kd.R_alloc | apply Kd.R_drewN | apply Kd.R_drew)); exact HO_3.out) hg hat); have n1_ := Aside0.mk (blk_grown (g := gb302) (o := .cells #[.bool ((rd_T43 l0 x14_1).f0), .slice (some ad304) ((rd_T43 l0 x14_1).f1).length c301_1] 43 (0, 0)) (by (with_reducible repeat (first | refine blk_drewN ?_ _ | refine blk_drew ?_ | refine blk_alloc ?_ _)); exact BK302.out) hg (Kd.R_ne HO309.out BK302.out (by decide))); have n2_ := Aside0.mk (blk_grown (g := gb305) (o := .cells #[.bool ((rd_T23 ((rd_T43 l0 x14_1).f1) x32_3).f0), .int .i64 ((rd_T23 ((rd_T43 l0 x14_1).f1) x32_3).f1)] 23 (0, 0)) (by (with_reducible repeat (first | refine blk_drewN ?_ _ | refine blk_drew ?_ | refine blk_alloc ?_ _)); exact BK305.out) hg (Kd.R_ne HO309.out BK305.out (by decide))); have n3_ := Aside0.mk (hb); have n4_ := Aside0.mk (ho); clear HO_3; clear BK302; clear BK305; clear HB; clear HO309; have HO_3 := n0_; have BK302 := n1_; have BK305 := n2_; have HB := n3_; have HO312 := n4_; clear n0_ n1_ n2_ n3_ n4_; clear ho hb hg hat))
                                        go_roundg kj20
                                        case measure => have := HK1.out; have := HJ7.out; have := HK3.out; have := HJ20.out; omega
                                        case rel => exact ⟨(y310), (wrap64 (x32_3 + 1)), (by first | rfl | (simp; done) | (simp [*]; done)), H', ⟨by have := HK1.out; have := HJ7.out; have := HK3.out; have := HJ20.out; omega⟩, ⟨by (with_reducible repeat (first | apply Kd.R_alloc | apply Kd.R_drewN | apply Kd.R_drew)); exact Kd.R_mono HO312.out (fun _ hk => trivial)⟩, ⟨by (with_reducible repeat (first | refine blk_drewN ?_ _ | refine blk_drew ?_ | refine blk_alloc ?_ _)); exact BK302.out⟩, ⟨by repeat (first | (with_reducible first | exact HB.out | apply below_alloc | apply pw_below_drewN | apply below_drew1 | refine below_set ?_ GE302.out | refine below_set ?_ GE305.out) | exact HB.out)⟩⟩
                                      · rw [if_neg c40] at H
                                        exact absurd H (by simp)
                            · rw [if_neg c20] at H
                              exact absurd H (by simp)
                          · rw [if_neg c19] at H
                            exact absurd H (by simp)
                        · rw [if_neg c18] at H
                          have c18b0 : decide (x32_3 < (((rd_T43 l0 x14_1).f1).length : Int)) = false := decide_eq_false c18
                          clear c18
                          by_cases c48 : ((rd_T43 l0 x14_1).f0) = true
                          · rw [if_pos c48] at H
                            have c48b0 : ((rd_T43 l0 x14_1).f0) = true := c48
                            clear c48
                            replace H := Option.bind_eq_some_iff.mp H
                            obtain ⟨t313, A490, H⟩ := H
                            replace H : (if x4_1.size + t313.size ≤ 9223372036854775807 then (laws_FnDrawModes.l0 k3 l0 x3_3 (x4_1 ++ t313) l0 (l0.length : Int) (wrap64 (x14_1 + 1))) else (none)) = some r := H
                            have A49 := Aside0.mk A490
                            clear A490
                            by_cases c50 : x4_1.size + t313.size ≤ 9223372036854775807
                            · rw [if_pos c50] at H
                              have c50b0 := eq_true c50
                              have c50b1 : decide (x4_1.size + t313.size ≤ 9223372036854775807) = true := decide_eq_true c50
                              try have c50b2 : (9223372036854775807 < x4_1.size + t313.size) = False := eq_false (Nat.not_lt.2 c50)
                              have H' := Aside0.mk H
                              clear H
                              have hcz51_0 : wr.cell? ⟨gb302, 0, none⟩ = some (.bool ((rd_T43 l0 x14_1).f0)) := (blk_cell BK302.out 0).trans rfl
                              have hcz51_1 : wr.cell? ⟨gb302, 1, none⟩ = some (.slice A301_1 ((rd_T43 l0 x14_1).f1).length c301_1) := (blk_cell BK302.out 1).trans rfl
                              have hfz51_0 := blk_frozen BK302.out 0
                              have hfz51_1 := blk_frozen BK302.out 1
                              go_wp2_with (first | ((with_reducible refine gate_callee (f := 18) rfl ?_); refine goesL_ (some 61) rfl rfl Tryz.func18 (by kernel_rfl) rfl #[.int .i64 1, .slice A301_1 ((rd_T43 l0 x14_1).f1).length c301_1] rfl (by (try simp only [List.map_toArray, List.map_cons, List.map_nil]); first | done | rfl | (simp only [List.length_drop, List.length_take]; rfl)) ?_; (with_reducible refine (impl_MakeModes.calls 1 _ _ ((rd_T43 l0 x14_1).f1) t313 _ ?side3 ?side1 ?side2 A49.out).mono ?_); (case side1 => repeat (first | exact (Kd.C_below HR301_1.out HB.out) | (with_reducible refine Kd.C_alloc ?_ _) | (with_reducible refine Kd.C_drewN ?_ _) | (with_reducible refine Kd.C_drew ?_))); (case side2 => exact HC301_1.out); (case side3 => exact XTab.below HT.out (by repeat (first | (with_reducible first | exact HB.out | apply below_alloc | apply pw_below_drewN | apply below_drew1 | refine below_set ?_ GE302.out) | exact HB.out))); rintro e w52 ⟨rfl, hb⟩; refine ⟨_, rfl, ?_⟩; have n0_ := Aside0.mk (Kd.R_below (by (with_reducible repeat (first | apply Kd.R_alloc | apply Kd.R_drewN | apply Kd.R_drew)); exact HO_3.out) hb); have n1_ := Aside0.mk (blk_below (g := gb302) (o := .cells #[.bool ((rd_T43 l0 x14_1).f0), .slice A301_1 ((rd_T43 l0 x14_1).f1).length c301_1] 43 (0, 0)) (by (with_reducible repeat (first | refine blk_drewN ?_ _ | refine blk_drew ?_ | refine blk_alloc ?_ _)); exact BK302.out) hb); have n2_ := Aside0.mk (below_step (by repeat (first | (with_reducible first | exact HB.out | apply below_alloc | apply pw_below_drewN | apply below_drew1 | refine below_set ?_ GE302.out) | exact HB.out)) hb); clear HO_3; clear BK302; clear HB; have HO_3 := n0_; have BK302 := n1_; have HB := n2_; clear n0_ n1_ n2_; (try clear hb); (try clear hb2); (try clear hk); (try clear hi)))
                              go_roundg k3
                              case measure => have := HK1.out; have := HJ7.out; have := HK3.out; omega
                              case rel => exact ⟨(x3_3), (x4_1 ++ t313), (wrap64 (x14_1 + 1)), (by first | rfl | (simp; done) | (simp [*]; done)), (by first | rfl | (simp; done) | (simp [*]; done)), H', ⟨by have := HK1.out; have := HJ7.out; have := HK3.out; omega⟩, ⟨by (with_reducible repeat (first | apply Kd.R_alloc | apply Kd.R_drewN | apply Kd.R_drew)); exact HO_3.out⟩, ⟨by repeat (first | (with_reducible first | exact HB.out | apply below_alloc | apply pw_below_drewN | apply below_drew1 | refine below_set ?_ GE302.out) | exact HB.out)⟩⟩
                            · rw [if_neg c50] at H
                              exact absurd H (by simp)
                          · rw [if_neg c48] at H
                            have c48b0 : ((rd_T43 l0 x14_1).f0) = false := by simpa using c48
                            clear c48
                            replace H := Option.bind_eq_some_iff.mp H
                            obtain ⟨t314, A530, H⟩ := H
                            replace H : (if x4_1.size + t314.size ≤ 9223372036854775807 then (laws_FnDrawModes.l0 k3 l0 x3_3 (x4_1 ++ t314) l0 (l0.length : Int) (wrap64 (x14_1 + 1))) else (none)) = some r := H
                            have A53 := Aside0.mk A530
                            clear A530
                            by_cases c54 : x4_1.size + t314.size ≤ 9223372036854775807
                            · rw [if_pos c54] at H
                              have c54b0 := eq_true c54
                              have c54b1 : decide (x4_1.size + t314.size ≤ 9223372036854775807) = true := decide_eq_true c54
                              try have c54b2 : (9223372036854775807 < x4_1.size + t314.size) = False := eq_false (Nat.not_lt.2 c54)
                              have H' := Aside0.mk H
                              clear H
                              have hcz55_0 : wr.cell? ⟨gb302, 0, none⟩ = some (.bool ((rd_T43 l0 x14_1).f0)) := (blk_cell BK302.out 0).trans rfl
                              have hcz55_1 : wr.cell? ⟨gb302, 1, none⟩ = some (.slice A301_1 ((rd_T43 l0 x14_1).f1).length c301_1) := (blk_cell BK302.out 1).trans rfl
                              have hfz55_0 := blk_frozen BK302.out 0
                              have hfz55_1 := blk_frozen BK302.out 1
                              go_wp2_with (first | ((with_reducible refine gate_callee (f := 18) rfl ?_); refine goesL_ (some 66) rfl rfl Tryz.func18 (by kernel_rfl) rfl #[.int .i64 0, .slice A301_1 ((rd_T43 l0 x14_1).f1).length c301_1] rfl (by (try simp only [List.map_toArray, List.map_cons, List.map_nil]); first | done | rfl | (simp only [List.length_drop, List.length_take]; rfl)) ?_; (with_reducible refine (impl_MakeModes.calls 0 _ _ ((rd_T43 l0 x14_1).f1) t314 _ ?side3 ?side1 ?side2 A53.out).mono ?_); (case side1 => repeat (first | exact (Kd.C_below HR301_1.out HB.out) | (with_reducible refine Kd.C_alloc ?_ _) | (with_reducible refine Kd.C_drewN ?_ _) | (with_reducible refine Kd.C_drew ?_))); (case side2 => exact HC301_1.out); (case side3 => exact XTab.below HT.out (by repeat (first | (with_reducible first | exact HB.out | apply below_alloc | apply pw_below_drewN | apply below_drew1 | refine below_set ?_ GE302.out) | exact HB.out))); rintro e w56 ⟨rfl, hb⟩; refine ⟨_, rfl, ?_⟩; have n0_ := Aside0.mk (Kd.R_below (by (with_reducible repeat (first | apply Kd.R_alloc | apply Kd.R_drewN | apply Kd.R_drew)); exact HO_3.out) hb); have n1_ := Aside0.mk (blk_below (g := gb302) (o := .cells #[.bool ((rd_T43 l0 x14_1).f0), .slice A301_1 ((rd_T43 l0 x14_1).f1).length c301_1] 43 (0, 0)) (by (with_reducible repeat (first | refine blk_drewN ?_ _ | refine blk_drew ?_ | refine blk_alloc ?_ _)); exact BK302.out) hb); have n2_ := Aside0.mk (below_step (by repeat (first | (with_reducible first | exact HB.out | apply below_alloc | apply pw_below_drewN | apply below_drew1 | refine below_set ?_ GE302.out) | exact HB.out)) hb); clear HO_3; clear BK302; clear HB; have HO_3 := n0_; have BK302 := n1_; have HB := n2_; clear n0_ n1_ n2_; (try clear hb); (try clear hb2); (try clear hk); (try clear hi)))
                              go_roundg k3
                              case measure => have := HK1.out; have := HJ7.out; have := HK3.out; omega
                              case rel => exact ⟨(x3_3), (x4_1 ++ t314), (wrap64 (x14_1 + 1)), (by first | rfl | (simp; done) | (simp [*]; done)), (by first | rfl | (simp; done) | (simp [*]; done)), H', ⟨by have := HK1.out; have := HJ7.out; have := HK3.out; omega⟩, ⟨by (with_reducible repeat (first | apply Kd.R_alloc | apply Kd.R_drewN | apply Kd.R_drew)); exact HO_3.out⟩, ⟨by repeat (first | (with_reducible first | exact HB.out | apply below_alloc | apply pw_below_drewN | apply below_drew1 | refine below_set ?_ GE302.out) | exact HB.out)⟩⟩
                            · rw [if_neg c54] at H
                              exact absurd H (by simp)
            · rw [if_neg c7] at H
              exact absurd H (by simp)
          · rw [if_neg c6] at H
            exact absurd H (by simp)
        · rw [if_neg c5] at H
          have c5b0 : decide (x14_1 < (l0.length : Int)) = false := decide_eq_false c5
          clear c5
          have HC57 := Aside0.mk H
          clear H
          go_upto_region 23 with (fail)
          go_cut [76] (fun v76 wc => ∃ (kq : Nat) (x76_56 : Bool), v76 = .bool x76_56 ∧ Aside0 (laws_FnDrawModes.j4 kq x3_1 x4_1 x76_56 = some r) ∧ Aside0 (kq ≤ k1) ∧ Aside0 (Kd.R k45 45 wc w.heap.size (fun _ => True) u3 x3_1) ∧ Aside0 (Below w.heap.size w wc))
          case first =>
            have H := HC57.out
            clear HC57
            by_cases c58 : (l0.length : Int) < 1
            · rw [if_pos c58] at H
              have c58b0 : decide ((l0.length : Int) < 1) = true := decide_eq_true c58
              have c58b1 : decide (l0.length < 1) = true := decide_eq_true (by omega)
              clear c58
              (first | rw [c58b0] | (simp only [i64_w, i32_w]; rw [c58b0]) | skip)
              have H' := Aside0.mk H
              clear H
              go_wp2
              go_meet
              case rel => exact ⟨_, (true), (by first | rfl | (simp; done) | (simp [*]; done)), H', ⟨by have := HK1.out; first | omega | exact Nat.le_refl _⟩, ⟨by (with_reducible repeat (first | apply Kd.R_alloc | apply Kd.R_drewN | apply Kd.R_drew)); exact HO_3.out⟩, ⟨by repeat (first | (with_reducible first | exact HB.out | apply below_alloc | apply pw_below_drewN | apply below_drew1) | exact HB.out)⟩⟩
            · rw [if_neg c58] at H
              have c58b0 : decide ((l0.length : Int) < 1) = false := decide_eq_false c58
              have c58b1 : decide (l0.length < 1) = false := decide_eq_false (by omega)
              clear c58
              (first | rw [c58b0] | (simp only [i64_w, i32_w]; rw [c58b0]) | skip)
              have H' := Aside0.mk H
              clear H
              go_wp2
              go_meet
              case rel => exact ⟨_, (decide ((l0.length : Int) > 8)), (by first | rfl | (simp; done) | (simp [*]; done)), H', ⟨by have := HK1.out; first | omega | exact Nat.le_refl _⟩, ⟨by (with_reducible repeat (first | apply Kd.R_alloc | apply Kd.R_drewN | apply Kd.R_drew)); exact HO_3.out⟩, ⟨by repeat (first | (with_reducible first | exact HB.out | apply below_alloc | apply pw_below_drewN | apply below_drew1) | exact HB.out)⟩⟩
          case rest => as_aux_lemma =>
            clear HC57
            try clear c1
            try clear c2
            try clear p2
            try clear c3
            try clear p3
            try clear q3
            try clear hx3
            try clear c4
            try clear c5
            try clear c5b0
            try clear c6
            try clear c6b0
            try clear p6
            try clear c7
            try clear c7b0
            try clear c8
            try clear c11
            try clear c11b0
            try clear c11b1
            try clear c14
            try clear c16
            try clear c17
            try clear c18
            try clear c18b0
            try clear c19
            try clear c19b0
            try clear c20
            try clear c20b0
            try clear c23
            try clear c25
            try clear c25b0
            try clear c26
            try clear c28
            try clear c30
            try clear p30
            try clear q30
            try clear hx30
            try clear c34
            try clear c34b0
            try clear c35
            try clear c40
            try clear c41
            try clear c48
            try clear c48b0
            try clear c50
            try clear c50b0
            try clear c50b1
            try clear c50b2
            try clear c54
            try clear c54b0
            try clear c54b1
            try clear c54b2
            try clear c58
            try clear c58b0
            try clear c58b1
            try clear hcz10_0
            try clear hcz10_1
            try clear hcz12_0
            try clear hcz12_1
            try clear hcz13_0
            try clear hcz13_1
            try clear hcz17_0
            try clear hcz17_1
            try clear hcz24_0
            try clear hcz24_1
            try clear hcz27_0
            try clear hcz27_1
            try clear hcz29_0
            try clear hcz29_1
            try clear hcz36_0
            try clear hcz36_1
            try clear hcz39_0
            try clear hcz39_1
            try clear hcz42_0
            try clear hcz42_1
            try clear hcz45_0
            try clear hcz45_1
            try clear hcz46_0
            try clear hcz46_1
            try clear hcz51_0
            try clear hcz51_1
            try clear hcz55_0
            try clear hcz55_1
            try clear hfz10_0
            try clear hfz10_1
            try clear hfz12_0
            try clear hfz12_1
            try clear hfz13_0
            try clear hfz13_1
            try clear hfz17_0
            try clear hfz17_1
            try clear hfz24_0
            try clear hfz24_1
            try clear hfz27_0
            try clear hfz27_1
            try clear hfz29_0
            try clear hfz29_1
            try clear hfz36_0
            try clear hfz36_1
            try clear hfz39_0
            try clear hfz39_1
            try clear hfz42_0
            try clear hfz42_1
            try clear hfz45_0
            try clear hfz45_1
            try clear hfz46_0
            try clear hfz46_1
            try clear hfz51_0
            try clear hfz51_1
            try clear hfz55_0
            try clear hfz55_1
            try clear hx301_0
            try clear hx301_1
            try clear hx304_0
            try clear hx304_1
            try clear p2
            try clear p3
            try clear p301
            try clear p304
            try clear q3
            try clear q301
            try clear q304
            obtain ⟨kq, x76_56, rfl, HA, HJ56, HO_3, HB⟩ := hcut
            cases kq with
            | zero => exact absurd HA.out (by simp [laws_FnDrawModes.j4])
            | succ kj56 =>
              have H := HA.out
              clear HA
              simp only [laws_FnDrawModes.j4] at H
              by_cases c59 : x76_56 = true
              · subst c59
                have H1 : ((laws_drawAwake.f).bind fun t315 => (some t315)) = some r := by rw [if_pos rfl] at H; exact H
                clear H
                have H := H1
                clear H1
                replace H := Option.bind_eq_some_iff.mp H
                obtain ⟨t315, A600, H⟩ := H
                replace H : (some t315) = some r := H
                have A60 := Aside0.mk A600
                clear A600
                obtain rfl := Option.some.inj H
                go_wp2_with (first | ((with_reducible refine gate_callee (f := 8) rfl ?_); refine goesL_ (some 77) rfl rfl Tryz.func8 (by kernel_rfl) rfl #[] rfl (by (try simp only [List.map_toArray, List.map_cons, List.map_nil]); first | done | rfl | (simp only [List.length_drop, List.length_take]; rfl)) ?_; (with_reducible refine (laws_drawAwake.calls  t315 _ ?side1 A60.out).mono ?_); (case side1 => exact XTab.below HT.out (by repeat (first | (with_reducible first | exact HB.out | apply below_alloc | apply pw_below_drewN | apply below_drew1) | exact HB.out))); rintro e w61 ⟨rfl, hb⟩; refine ⟨_, rfl, ?_⟩; have n0_ := Aside0.mk (Kd.R_below (by (with_reducible repeat (first | apply Kd.R_alloc | apply Kd.R_drewN | apply Kd.R_drew)); exact HO_3.out) hb); have n1_ := Aside0.mk (below_step (by repeat (first | (with_reducible first | exact HB.out | apply below_alloc | apply pw_below_drewN | apply below_drew1) | exact HB.out)) hb); clear HO_3; clear HB; have HO_3 := n0_; have HB := n1_; clear n0_ n1_; (try clear hb); (try clear hb2); (try clear hk); (try clear hi)))
                go_ret
                exact ⟨by first | rfl | (simp [errW_none, errW_some] <;> rfl) | (simp [*, errW_none, errW_some] <;> rfl), by repeat (first | (with_reducible first | exact HB.out | apply below_alloc | apply pw_below_drewN | apply below_drew1) | exact HB.out)⟩
              · replace c59 := Bool.eq_false_iff.mpr c59
                subst c59
                have H1 : ((gosem_conv.f x4_1).bind fun t316 => ((impl_Feed.f 32 4096 t316).bind fun t319 => ((laws_drawEvents.f kj56 t319).bind fun t322 => ((spec_DrawModes.f kj56 t322).bind fun t325 => ((spec_SameDrawModes.f kj56 t325 x3_1).bind fun t328 => (if t328 = true then ((laws_drawAwake.f).bind fun t329 => (some t329)) else (some false))))))) = some r := by rw [if_neg (show ¬ (false = true) by decide)] at H; exact H
                clear H
                have H := H1
                clear H1
                replace H := Option.bind_eq_some_iff.mp H
                obtain ⟨t316, A620, H⟩ := H
                replace H : ((impl_Feed.f 32 4096 t316).bind fun t319 => ((laws_drawEvents.f kj56 t319).bind fun t322 => ((spec_DrawModes.f kj56 t322).bind fun t325 => ((spec_SameDrawModes.f kj56 t325 x3_1).bind fun t328 => (if t328 = true then ((laws_drawAwake.f).bind fun t329 => (some t329)) else (some false)))))) = some r := H
                have A62 := Aside0.mk A620
                clear A620
                replace H := Option.bind_eq_some_iff.mp H
                obtain ⟨t319, A630, H⟩ := H
                replace H : ((laws_drawEvents.f kj56 t319).bind fun t322 => ((spec_DrawModes.f kj56 t322).bind fun t325 => ((spec_SameDrawModes.f kj56 t325 x3_1).bind fun t328 => (if t328 = true then ((laws_drawAwake.f).bind fun t329 => (some t329)) else (some false))))) = some r := H
                have A63 := Aside0.mk A630
                clear A630
                replace H := Option.bind_eq_some_iff.mp H
                obtain ⟨t322, A640, H⟩ := H
                replace H : ((spec_DrawModes.f kj56 t322).bind fun t325 => ((spec_SameDrawModes.f kj56 t325 x3_1).bind fun t328 => (if t328 = true then ((laws_drawAwake.f).bind fun t329 => (some t329)) else (some false)))) = some r := H
                have A64 := Aside0.mk A640
                clear A640
                replace H := Option.bind_eq_some_iff.mp H
                obtain ⟨t325, A650, H⟩ := H
                replace H : ((spec_SameDrawModes.f kj56 t325 x3_1).bind fun t328 => (if t328 = true then ((laws_drawAwake.f).bind fun t329 => (some t329)) else (some false))) = some r := H
                have A65 := Aside0.mk A650
                clear A650
                replace H := Option.bind_eq_some_iff.mp H
                obtain ⟨t328, A660, H⟩ := H
                replace H : (if t328 = true then ((laws_drawAwake.f).bind fun t329 => (some t329)) else (some false)) = some r := H
                have A66 := Aside0.mk A660
                clear A660
                by_cases c67 : t328 = true
                · subst c67
                  have H1 : ((laws_drawAwake.f).bind fun t329 => (some t329)) = some r := by rw [if_pos rfl] at H; exact H
                  clear H
                  have H := H1
                  clear H1
                  replace H := Option.bind_eq_some_iff.mp H
                  obtain ⟨t329, A680, H⟩ := H
                  replace H : (some t329) = some r := H
                  have A68 := Aside0.mk A680
                  clear A680
                  obtain rfl := Option.some.inj H
                  go_wp2_with (first | ((with_reducible refine gate_dst (N := 79) rfl ?_); (try (refine gate_guard (by rfl) ?_; dsimp only)); refine conv_ev 9 32 5 rfl rfl Tryz.underlying9 Tryz.underlying32 Tryz.underlying5 x4_1 rfl A62.out ?_; rintro e w69 ⟨v317, rfl, ho0, hb⟩; refine ⟨_, rfl, ?_⟩; have n0_ := Aside0.mk (Kd.R_below (by (with_reducible repeat (first | apply Kd.R_alloc | apply Kd.R_drewN | apply Kd.R_drew)); exact HO_3.out) hb); have n1_ := Aside0.mk (Kd.V_lower (Kd.V_mono (ok' := fun k_ => some k_ ≠ (u3 : Value).ownBlock) ho0 (fun k_ hk_ => (Kd.fresh' (Kd.R_lt (by (with_reducible repeat (first | apply Kd.R_alloc | apply Kd.R_drewN | apply Kd.R_drew)); exact HO_3.out)) k_ hk_))) (below_size (by repeat (first | (with_reducible first | exact HB.out | apply below_alloc | apply pw_below_drewN | apply below_drew1) | exact HB.out)))); have n2_ := Aside0.mk (below_step (by repeat (first | (with_reducible first | exact HB.out | apply below_alloc | apply pw_below_drewN | apply below_drew1) | exact HB.out)) hb); clear HO_3; clear HB; have HO_3 := n0_; have HO318 := n1_; have HB := n2_; clear n0_ n1_ n2_; (try clear hb); (try clear hb2); (try clear hk); (try clear hi); (try clear ho0); obtain ⟨Ao70, co70, eo70⟩ := Kd.V_slice HO318.out; subst eo70) | ((with_reducible refine gate_callee (f := 11) rfl ?_); refine goesL_ (some 80) rfl rfl Tryz.func11 (by kernel_rfl) rfl #[.int .i64 32, .int .i64 4096, .slice Ao70 t316.length co70] rfl (by (try simp only [List.map_toArray, List.map_cons, List.map_nil]); first | done | rfl | (simp only [List.length_drop, List.length_take]; rfl)) ?_; (with_reducible refine (impl_Feed.calls 32 4096 _ _ t316 t319 _ ?side1 ?side2 A63.out).mono ?_); (case side1 => repeat (first | exact (Kd.V_reads' HO318.out).2.2 | (with_reducible refine Kd.C_alloc ?_ _) | (with_reducible refine Kd.C_drewN ?_ _) | (with_reducible refine Kd.C_drew ?_))); (case side2 => exact (Kd.V_reads' HO318.out).2.1); rintro e w71 ⟨v320, rfl, ho0, hb⟩; refine ⟨_, rfl, ?_⟩; have n0_ := Aside0.mk (Kd.R_below (by (with_reducible repeat (first | apply Kd.R_alloc | apply Kd.R_drewN | apply Kd.R_drew)); exact HO_3.out) hb); have n1_ := Aside0.mk (Kd.V_elder' (by (with_reducible repeat (first | apply Kd.V_alloc | apply Kd.V_drewN | apply Kd.V_drew)); exact HO318.out) (by first | exact Kd.N_base ho0 | exact Kd.S_base ho0) hb); have n2_ := Aside0.mk (Kd.N_lower (Kd.N_mono (ok' := fun k_ => some k_ ≠ (u3 : Value).ownBlock) (Kd.S_N (Kd.S_bound ho0)) (fun k_ hk_ => (Kd.fresh' (Kd.R_lt (by (with_reducible repeat (first | apply Kd.R_alloc | apply Kd.R_drewN | apply Kd.R_drew)); exact HO_3.out)) k_ hk_.2.1))) (below_size (by repeat (first | (with_reducible first | exact HB.out | apply below_alloc | apply pw_below_drewN | apply below_drew1) | exact HB.out)))); have n3_ := Aside0.mk (below_step (by repeat (first | (with_reducible first | exact HB.out | apply below_alloc | apply pw_below_drewN | apply below_drew1) | exact HB.out)) hb); clear HO_3; clear HO318; clear HB; have HO_3 := n0_; have HO318 := n1_; have HO321 := n2_; have HB := n3_; clear n0_ n1_ n2_ n3_; (try clear hb); (try clear hb2); (try clear hk); (try clear hi); (try clear ho0); obtain ⟨Ao72, co72, eo72⟩ := Kd.N_slice HO321.out; subst eo72) | ((with_reducible refine gate_callee (f := 10) rfl ?_); refine goesL_ (some 81) rfl rfl Tryz.func10 (by kernel_rfl) rfl #[.slice Ao72 t319.length co72] rfl (by (try simp only [List.map_toArray, List.map_cons, List.map_nil]); first | done | rfl | (simp only [List.length_drop, List.length_take]; rfl)) ?_; (with_reducible refine (laws_drawEvents.calls kj56 (fun k_ => some k_ ≠ (u3 : Value).ownBlock) _ _ t319 t322 _ ?side1 A64.out).mono ?_); (case side1 => exact Kd.N_V (HO321.out)); rintro e w73 ⟨v323, rfl, ho0, hb⟩; refine ⟨_, rfl, ?_⟩; have n0_ := Aside0.mk (Kd.R_below (by (with_reducible repeat (first | apply Kd.R_alloc | apply Kd.R_drewN | apply Kd.R_drew)); exact HO_3.out) hb); have n1_ := Aside0.mk (Kd.V_elder' (by (with_reducible repeat (first | apply Kd.V_alloc | apply Kd.V_drewN | apply Kd.V_drew)); exact HO318.out) (by first | exact Kd.N_base ho0 | exact Kd.S_base ho0) hb); have n2_ := Aside0.mk (Kd.N_elder' (by (with_reducible repeat (first | apply Kd.N_alloc | apply Kd.N_drewN | apply Kd.N_drew)); exact HO321.out) (by first | exact Kd.N_base ho0 | exact Kd.S_base ho0) hb); have n3_ := Aside0.mk (Kd.N_lower (Kd.N_mono (ok' := fun k_ => some k_ ≠ (u3 : Value).ownBlock) ho0 (fun k_ hk_ => Or.elim hk_ (fun hs_ => hs_) (fun hn_ => (Kd.fresh' (Kd.R_lt (by (with_reducible repeat (first | apply Kd.R_alloc | apply Kd.R_drewN | apply Kd.R_drew)); exact HO_3.out)) k_ hn_)))) (below_size (by repeat (first | (with_reducible first | exact HB.out | apply below_alloc | apply pw_below_drewN | apply below_drew1) | exact HB.out)))); have n4_ := Aside0.mk (below_step (by repeat (first | (with_reducible first | exact HB.out | apply below_alloc | apply pw_below_drewN | apply below_drew1) | exact HB.out)) hb); clear HO_3; clear HO318; clear HO321; clear HB; have HO_3 := n0_; have HO318 := n1_; have HO321 := n2_; have HO324 := n3_; have HB := n4_; clear n0_ n1_ n2_ n3_ n4_; (try clear hb); (try clear hb2); (try clear hk); (try clear hi); (try clear ho0); obtain ⟨Ao74, co74, eo74⟩ := Kd.N_slice HO324.out; subst eo74) | ((with_reducible refine gate_callee (f := 20) rfl ?_); refine goesL_ (some 82) rfl rfl Tryz.func20 (by kernel_rfl) rfl #[.slice Ao74 t322.length co74] rfl (by (try simp only [List.map_toArray, List.map_cons, List.map_nil]); first | done | rfl | (simp only [List.length_drop, List.length_take]; rfl)) ?_; (with_reducible refine (spec_DrawModes.calls kj56 _ _ t322 t325 _ ?side1 ?side2 A65.out).mono ?_); (case side1 => repeat (first | exact (Kd.N_reads' HO324.out).2.2 | (with_reducible refine Kd.C_alloc ?_ _) | (with_reducible refine Kd.C_drewN ?_ _) | (with_reducible refine Kd.C_drew ?_))); (case side2 => exact (Kd.N_reads' HO324.out).2.1); rintro e w75 ⟨v326, rfl, ho0, hb⟩; refine ⟨_, rfl, ?_⟩; have n0_ := Aside0.mk (Kd.R_elder' (by (with_reducible repeat (first | apply Kd.R_alloc | apply Kd.R_drewN | apply Kd.R_drew)); exact HO_3.out) (Kd.R_base ho0) hb); have n1_ := Aside0.mk (Kd.V_elder' (by (with_reducible repeat (first | apply Kd.V_alloc | apply Kd.V_drewN | apply Kd.V_drew)); exact HO318.out) (Kd.R_base ho0) hb); have n2_ := Aside0.mk (Kd.N_elder' (by (with_reducible repeat (first | apply Kd.N_alloc | apply Kd.N_drewN | apply Kd.N_drew)); exact HO321.out) (Kd.R_base ho0) hb); have n3_ := Aside0.mk (Kd.N_elder' (by (with_reducible repeat (first | apply Kd.N_alloc | apply Kd.N_drewN | apply Kd.N_drew)); exact HO324.out) (Kd.R_base ho0) hb); have n4_ := Aside0.mk (Kd.R_lower (Kd.R_new' ho0 (Kd.R_lt (by (with_reducible repeat (first | apply Kd.R_alloc | apply Kd.R_drewN | apply Kd.R_drew)); exact HO_3.out))) (below_size (by repeat (first | (with_reducible first | exact HB.out | apply below_alloc | apply pw_below_drewN | apply below_drew1) | exact HB.out)))); have n5_ := Aside0.mk (below_step (by repeat (first | (with_reducible first | exact HB.out | apply below_alloc | apply pw_below_drewN | apply below_drew1) | exact HB.out)) hb); clear HO_3; clear HO318; clear HO321; clear HO324; clear HB; have HO_3 := n0_; have HO318 := n1_; have HO321 := n2_; have HO324 := n3_; have HO327 := n4_; have HB := n5_; clear n0_ n1_ n2_ n3_ n4_ n5_; (try clear hb); (try clear hb2); (try clear hk); (try clear hi); (try clear ho0); obtain ⟨Ao76, co76, eo76⟩ := Kd.R_slice HO327.out; subst eo76; obtain ⟨Ao77, co77, eo77⟩ := Kd.R_slice HO_3.out; subst eo77) | ((with_reducible refine gate_callee (f := 19) rfl ?_); refine goesL_ (some 84) rfl rfl Tryz.func19 (by kernel_rfl) rfl #[.slice Ao76 t325.length co76, .slice Ao77 x3_1.length co77] rfl (by (try simp only [List.map_toArray, List.map_cons, List.map_nil]); first | done | rfl | (simp only [List.length_drop, List.length_take]; rfl)) ?_; (with_reducible refine (spec_SameDrawModes.calls kj56 _ _ t325 _ _ x3_1 true _ ?side1 ?side2 ?side3 ?side4 A66.out).mono ?_); (case side1 => repeat (first | exact (Kd.R_reads' HO327.out).2.2 | (with_reducible refine Kd.C_alloc ?_ _) | (with_reducible refine Kd.C_drewN ?_ _) | (with_reducible refine Kd.C_drew ?_))); (case side2 => exact (Kd.R_reads' HO327.out).2.1); (case side3 => repeat (first | exact (Kd.R_reads' HO_3.out).2.2 | (with_reducible refine Kd.C_alloc ?_ _) | (with_reducible refine Kd.C_drewN ?_ _) | (with_reducible refine Kd.C_drew ?_))); (case side4 => exact (Kd.R_reads' HO_3.out).2.1); rintro e w78 ⟨rfl, hb⟩; refine ⟨_, rfl, ?_⟩; have n0_ := Aside0.mk (Kd.R_below (by (with_reducible repeat (first | apply Kd.R_alloc | apply Kd.R_drewN | apply Kd.R_drew)); exact HO_3.out) hb); have n1_ := Aside0.mk (Kd.V_below (by (with_reducible repeat (first | apply Kd.V_alloc | apply Kd.V_drewN | apply Kd.V_drew)); exact HO318.out) hb); have n2_ := Aside0.mk (Kd.N_below (by (with_reducible repeat (first | apply Kd.N_alloc | apply Kd.N_drewN | apply Kd.N_drew)); exact HO321.out) hb); have n3_ := Aside0.mk (Kd.N_below (by (with_reducible repeat (first | apply Kd.N_alloc | apply Kd.N_drewN | apply Kd.N_drew)); exact HO324.out) hb); have n4_ := Aside0.mk (Kd.R_below (by (with_reducible repeat (first | apply Kd.R_alloc | apply Kd.R_drewN | apply Kd.R_drew)); exact HO327.out) hb); have n5_ := Aside0.mk (below_step (by repeat (first | (with_reducible first | exact HB.out | apply below_alloc | apply pw_below_drewN | apply below_drew1) | exact HB.out)) hb); clear HO_3; clear HO318; clear HO321; clear HO324; clear HO327; clear HB; have HO_3 := n0_; have HO318 := n1_; have HO321 := n2_; have HO324 := n3_; have HO327 := n4_; have HB := n5_; clear n0_ n1_ n2_ n3_ n4_ n5_; (try clear hb); (try clear hb2); (try clear hk); (try clear hi)) | (go_at_call 8; (with_reducible refine (laws_drawAwake.calls  t329 _ ?side1 A68.out).mono ?_); (case side1 => exact XTab.below HT.out (by repeat (first | (with_reducible first | exact HB.out | apply below_alloc | apply pw_below_drewN | apply below_drew1) | exact HB.out))); rintro e w79 ⟨rfl, hb⟩; have n0_ := Aside0.mk (Kd.R_below (by (with_reducible repeat (first | apply Kd.R_alloc | apply Kd.R_drewN | apply Kd.R_drew)); exact HO_3.out) hb); have n1_ := Aside0.mk (Kd.V_below (by (with_reducible repeat (first | apply Kd.V_alloc | apply Kd.V_drewN | apply Kd.V_drew)); exact HO318.out) hb); have n2_ := Aside0.mk (Kd.N_below (by (with_reducible repeat (first | apply Kd.N_alloc | apply Kd.N_drewN | apply Kd.N_drew)); exact HO321.out) hb); have n3_ := Aside0.mk (Kd.N_below (by (with_reducible repeat (first | apply Kd.N_alloc | apply Kd.N_drewN | apply Kd.N_drew)); exact HO324.out) hb); have n4_ := Aside0.mk (Kd.R_below (by (with_reducible repeat (first | apply Kd.R_alloc | apply Kd.R_drewN | apply Kd.R_drew)); exact HO327.out) hb); have n5_ := Aside0.mk (below_step (by repeat (first | (with_reducible first | exact HB.out | apply below_alloc | apply pw_below_drewN | apply below_drew1) | exact HB.out)) hb); clear HO_3; clear HO318; clear HO321; clear HO324; clear HO327; clear HB; have HO_3 := n0_; have HO318 := n1_; have HO321 := n2_; have HO324 := n3_; have HO327 := n4_; have HB := n5_; clear n0_ n1_ n2_ n3_ n4_ n5_; (try clear hb); (try clear hb2); (try clear hk); (try clear hi)))
                  go_ret
                  exact ⟨by first | rfl | (simp [errW_none, errW_some] <;> rfl) | (simp [*, errW_none, errW_some] <;> rfl), by repeat (first | (with_reducible first | exact HB.out | apply below_alloc | apply pw_below_drewN | apply below_drew1) | exact HB.out)⟩
                · replace c67 := Bool.eq_false_iff.mpr c67
                  subst c67
                  have H1 : (some false) = some r := by rw [if_neg (show ¬ (false = true) by decide)] at H; exact H
                  clear H
                  have H := H1
                  clear H1
                  obtain rfl := Option.some.inj H
                  go_wp2_with (first | ((with_reducible refine gate_dst (N := 79) rfl ?_); (try (refine gate_guard (by rfl) ?_; dsimp only)); refine conv_ev 9 32 5 rfl rfl Tryz.underlying9 Tryz.underlying32 Tryz.underlying5 x4_1 rfl A62.out ?_; rintro e w80 ⟨v317, rfl, ho0, hb⟩; refine ⟨_, rfl, ?_⟩; have n0_ := Aside0.mk (Kd.R_below (by (with_reducible repeat (first | apply Kd.R_alloc | apply Kd.R_drewN | apply Kd.R_drew)); exact HO_3.out) hb); have n1_ := Aside0.mk (Kd.V_lower (Kd.V_mono (ok' := fun k_ => some k_ ≠ (u3 : Value).ownBlock) ho0 (fun k_ hk_ => (Kd.fresh' (Kd.R_lt (by (with_reducible repeat (first | apply Kd.R_alloc | apply Kd.R_drewN | apply Kd.R_drew)); exact HO_3.out)) k_ hk_))) (below_size (by repeat (first | (with_reducible first | exact HB.out | apply below_alloc | apply pw_below_drewN | apply below_drew1) | exact HB.out)))); have n2_ := Aside0.mk (below_step (by repeat (first | (with_reducible first | exact HB.out | apply below_alloc | apply pw_below_drewN | apply below_drew1) | exact HB.out)) hb); clear HO_3; clear HB; have HO_3 := n0_; have HO318 := n1_; have HB := n2_; clear n0_ n1_ n2_; (try clear hb); (try clear hb2); (try clear hk); (try clear hi); (try clear ho0); obtain ⟨Ao81, co81, eo81⟩ := Kd.V_slice HO318.out; subst eo81) | ((with_reducible refine gate_callee (f := 11) rfl ?_); refine goesL_ (some 80) rfl rfl Tryz.func11 (by kernel_rfl) rfl #[.int .i64 32, .int .i64 4096, .slice Ao81 t316.length co81] rfl (by (try simp only [List.map_toArray, List.map_cons, List.map_nil]); first | done | rfl | (simp only [List.length_drop, List.length_take]; rfl)) ?_; (with_reducible refine (impl_Feed.calls 32 4096 _ _ t316 t319 _ ?side1 ?side2 A63.out).mono ?_); (case side1 => repeat (first | exact (Kd.V_reads' HO318.out).2.2 | (with_reducible refine Kd.C_alloc ?_ _) | (with_reducible refine Kd.C_drewN ?_ _) | (with_reducible refine Kd.C_drew ?_))); (case side2 => exact (Kd.V_reads' HO318.out).2.1); rintro e w82 ⟨v320, rfl, ho0, hb⟩; refine ⟨_, rfl, ?_⟩; have n0_ := Aside0.mk (Kd.R_below (by (with_reducible repeat (first | apply Kd.R_alloc | apply Kd.R_drewN | apply Kd.R_drew)); exact HO_3.out) hb); have n1_ := Aside0.mk (Kd.V_elder' (by (with_reducible repeat (first | apply Kd.V_alloc | apply Kd.V_drewN | apply Kd.V_drew)); exact HO318.out) (by first | exact Kd.N_base ho0 | exact Kd.S_base ho0) hb); have n2_ := Aside0.mk (Kd.N_lower (Kd.N_mono (ok' := fun k_ => some k_ ≠ (u3 : Value).ownBlock) (Kd.S_N (Kd.S_bound ho0)) (fun k_ hk_ => (Kd.fresh' (Kd.R_lt (by (with_reducible repeat (first | apply Kd.R_alloc | apply Kd.R_drewN | apply Kd.R_drew)); exact HO_3.out)) k_ hk_.2.1))) (below_size (by repeat (first | (with_reducible first | exact HB.out | apply below_alloc | apply pw_below_drewN | apply below_drew1) | exact HB.out)))); have n3_ := Aside0.mk (below_step (by repeat (first | (with_reducible first | exact HB.out | apply below_alloc | apply pw_below_drewN | apply below_drew1) | exact HB.out)) hb); clear HO_3; clear HO318; clear HB; have HO_3 := n0_; have HO318 := n1_; have HO321 := n2_; have HB := n3_; clear n0_ n1_ n2_ n3_; (try clear hb); (try clear hb2); (try clear hk); (try clear hi); (try clear ho0); obtain ⟨Ao83, co83, eo83⟩ := Kd.N_slice HO321.out; subst eo83) | ((with_reducible refine gate_callee (f := 10) rfl ?_); refine goesL_ (some 81) rfl rfl Tryz.func10 (by kernel_rfl) rfl #[.slice Ao83 t319.length co83] rfl (by (try simp only [List.map_toArray, List.map_cons, List.map_nil]); first | done | rfl | (simp only [List.length_drop, List.length_take]; rfl)) ?_; (with_reducible refine (laws_drawEvents.calls kj56 (fun k_ => some k_ ≠ (u3 : Value).ownBlock) _ _ t319 t322 _ ?side1 A64.out).mono ?_); (case side1 => exact Kd.N_V (HO321.out)); rintro e w84 ⟨v323, rfl, ho0, hb⟩; refine ⟨_, rfl, ?_⟩; have n0_ := Aside0.mk (Kd.R_below (by (with_reducible repeat (first | apply Kd.R_alloc | apply Kd.R_drewN | apply Kd.R_drew)); exact HO_3.out) hb); have n1_ := Aside0.mk (Kd.V_elder' (by (with_reducible repeat (first | apply Kd.V_alloc | apply Kd.V_drewN | apply Kd.V_drew)); exact HO318.out) (by first | exact Kd.N_base ho0 | exact Kd.S_base ho0) hb); have n2_ := Aside0.mk (Kd.N_elder' (by (with_reducible repeat (first | apply Kd.N_alloc | apply Kd.N_drewN | apply Kd.N_drew)); exact HO321.out) (by first | exact Kd.N_base ho0 | exact Kd.S_base ho0) hb); have n3_ := Aside0.mk (Kd.N_lower (Kd.N_mono (ok' := fun k_ => some k_ ≠ (u3 : Value).ownBlock) ho0 (fun k_ hk_ => Or.elim hk_ (fun hs_ => hs_) (fun hn_ => (Kd.fresh' (Kd.R_lt (by (with_reducible repeat (first | apply Kd.R_alloc | apply Kd.R_drewN | apply Kd.R_drew)); exact HO_3.out)) k_ hn_)))) (below_size (by repeat (first | (with_reducible first | exact HB.out | apply below_alloc | apply pw_below_drewN | apply below_drew1) | exact HB.out)))); have n4_ := Aside0.mk (below_step (by repeat (first | (with_reducible first | exact HB.out | apply below_alloc | apply pw_below_drewN | apply below_drew1) | exact HB.out)) hb); clear HO_3; clear HO318; clear HO321; clear HB; have HO_3 := n0_; have HO318 := n1_; have HO321 := n2_; have HO324 := n3_; have HB := n4_; clear n0_ n1_ n2_ n3_ n4_; (try clear hb); (try clear hb2); (try clear hk); (try clear hi); (try clear ho0); obtain ⟨Ao85, co85, eo85⟩ := Kd.N_slice HO324.out; subst eo85) | ((with_reducible refine gate_callee (f := 20) rfl ?_); refine goesL_ (some 82) rfl rfl Tryz.func20 (by kernel_rfl) rfl #[.slice Ao85 t322.length co85] rfl (by (try simp only [List.map_toArray, List.map_cons, List.map_nil]); first | done | rfl | (simp only [List.length_drop, List.length_take]; rfl)) ?_; (with_reducible refine (spec_DrawModes.calls kj56 _ _ t322 t325 _ ?side1 ?side2 A65.out).mono ?_); (case side1 => repeat (first | exact (Kd.N_reads' HO324.out).2.2 | (with_reducible refine Kd.C_alloc ?_ _) | (with_reducible refine Kd.C_drewN ?_ _) | (with_reducible refine Kd.C_drew ?_))); (case side2 => exact (Kd.N_reads' HO324.out).2.1); rintro e w86 ⟨v326, rfl, ho0, hb⟩; refine ⟨_, rfl, ?_⟩; have n0_ := Aside0.mk (Kd.R_elder' (by (with_reducible repeat (first | apply Kd.R_alloc | apply Kd.R_drewN | apply Kd.R_drew)); exact HO_3.out) (Kd.R_base ho0) hb); have n1_ := Aside0.mk (Kd.V_elder' (by (with_reducible repeat (first | apply Kd.V_alloc | apply Kd.V_drewN | apply Kd.V_drew)); exact HO318.out) (Kd.R_base ho0) hb); have n2_ := Aside0.mk (Kd.N_elder' (by (with_reducible repeat (first | apply Kd.N_alloc | apply Kd.N_drewN | apply Kd.N_drew)); exact HO321.out) (Kd.R_base ho0) hb); have n3_ := Aside0.mk (Kd.N_elder' (by (with_reducible repeat (first | apply Kd.N_alloc | apply Kd.N_drewN | apply Kd.N_drew)); exact HO324.out) (Kd.R_base ho0) hb); have n4_ := Aside0.mk (Kd.R_lower (Kd.R_new' ho0 (Kd.R_lt (by (with_reducible repeat (first | apply Kd.R_alloc | apply Kd.R_drewN | apply Kd.R_drew)); exact HO_3.out))) (below_size (by repeat (first | (with_reducible first | exact HB.out | apply below_alloc | apply pw_below_drewN | apply below_drew1) | exact HB.out)))); have n5_ := Aside0.mk (below_step (by repeat (first | (with_reducible first | exact HB.out | apply below_alloc | apply pw_below_drewN | apply below_drew1) | exact HB.out)) hb); clear HO_3; clear HO318; clear HO321; clear HO324; clear HB; have HO_3 := n0_; have HO318 := n1_; have HO321 := n2_; have HO324 := n3_; have HO327 := n4_; have HB := n5_; clear n0_ n1_ n2_ n3_ n4_ n5_; (try clear hb); (try clear hb2); (try clear hk); (try clear hi); (try clear ho0); obtain ⟨Ao87, co87, eo87⟩ := Kd.R_slice HO327.out; subst eo87; obtain ⟨Ao88, co88, eo88⟩ := Kd.R_slice HO_3.out; subst eo88) | ((with_reducible refine gate_callee (f := 19) rfl ?_); refine goesL_ (some 84) rfl rfl Tryz.func19 (by kernel_rfl) rfl #[.slice Ao87 t325.length co87, .slice Ao88 x3_1.length co88] rfl (by (try simp only [List.map_toArray, List.map_cons, List.map_nil]); first | done | rfl | (simp only [List.length_drop, List.length_take]; rfl)) ?_; (with_reducible refine (spec_SameDrawModes.calls kj56 _ _ t325 _ _ x3_1 false _ ?side1 ?side2 ?side3 ?side4 A66.out).mono ?_); (case side1 => repeat (first | exact (Kd.R_reads' HO327.out).2.2 | (with_reducible refine Kd.C_alloc ?_ _) | (with_reducible refine Kd.C_drewN ?_ _) | (with_reducible refine Kd.C_drew ?_))); (case side2 => exact (Kd.R_reads' HO327.out).2.1); (case side3 => repeat (first | exact (Kd.R_reads' HO_3.out).2.2 | (with_reducible refine Kd.C_alloc ?_ _) | (with_reducible refine Kd.C_drewN ?_ _) | (with_reducible refine Kd.C_drew ?_))); (case side4 => exact (Kd.R_reads' HO_3.out).2.1); rintro e w89 ⟨rfl, hb⟩; refine ⟨_, rfl, ?_⟩; have n0_ := Aside0.mk (Kd.R_below (by (with_reducible repeat (first | apply Kd.R_alloc | apply Kd.R_drewN | apply Kd.R_drew)); exact HO_3.out) hb); have n1_ := Aside0.mk (Kd.V_below (by (with_reducible repeat (first | apply Kd.V_alloc | apply Kd.V_drewN | apply Kd.V_drew)); exact HO318.out) hb); have n2_ := Aside0.mk (Kd.N_below (by (with_reducible repeat (first | apply Kd.N_alloc | apply Kd.N_drewN | apply Kd.N_drew)); exact HO321.out) hb); have n3_ := Aside0.mk (Kd.N_below (by (with_reducible repeat (first | apply Kd.N_alloc | apply Kd.N_drewN | apply Kd.N_drew)); exact HO324.out) hb); have n4_ := Aside0.mk (Kd.R_below (by (with_reducible repeat (first | apply Kd.R_alloc | apply Kd.R_drewN | apply Kd.R_drew)); exact HO327.out) hb); have n5_ := Aside0.mk (below_step (by repeat (first | (with_reducible first | exact HB.out | apply below_alloc | apply pw_below_drewN | apply below_drew1) | exact HB.out)) hb); clear HO_3; clear HO318; clear HO321; clear HO324; clear HO327; clear HB; have HO_3 := n0_; have HO318 := n1_; have HO321 := n2_; have HO324 := n3_; have HO327 := n4_; have HB := n5_; clear n0_ n1_ n2_ n3_ n4_ n5_; (try clear hb); (try clear hb2); (try clear hk); (try clear hi)))
                  go_ret
                  exact ⟨by first | rfl | (simp [errW_none, errW_some] <;> rfl) | (simp [*, errW_none, errW_some] <;> rfl), by repeat (first | (with_reducible first | exact HB.out | apply below_alloc | apply pw_below_drewN | apply below_drew1) | exact HB.out)⟩
  · replace c3 := Bool.eq_false_iff.mpr c3
    subst c3
    have H1 : (some true) = some r := by rw [if_neg (show ¬ (false = true) by decide)] at H; exact H
    clear H
    have H := H1
    clear H1
    obtain rfl := Option.some.inj H
    go_enter Tryz.func4, Tryz.ntmps4
    go_wp2_with (first | ((with_reducible refine gate_callee (f := 16) rfl ?_); refine goesL_ (some 10) rfl rfl Tryz.func16 (by kernel_rfl) rfl #[.slice A0 l0.length c0] rfl (by (try simp only [List.map_toArray, List.map_cons, List.map_nil]); first | done | rfl | (simp only [List.length_drop, List.length_take]; rfl)) ?_; (with_reducible refine (laws_zzFits9.calls k _ _ l0 false _ ?side1 ?side2 A2.out).mono ?_); (case side1 => repeat (first | exact HR0.out | (with_reducible refine Kd.C_alloc ?_ _) | (with_reducible refine Kd.C_drewN ?_ _) | (with_reducible refine Kd.C_drew ?_))); (case side2 => exact HC0.out); rintro e w90 ⟨rfl, hb⟩; refine ⟨_, rfl, ?_⟩; have n0_ := Aside0.mk (below_step (by repeat (first | (with_reducible first | exact HB.out | apply below_alloc | apply pw_below_drewN | apply below_drew1) | exact HB.out)) hb); clear HB; have HB := n0_; clear n0_; (try clear hb); (try clear hb2); (try clear hk); (try clear hi)))
    go_ret
    exact ⟨by first | rfl | (simp [errW_none, errW_some] <;> rfl) | (simp [*, errW_none, errW_some] <;> rfl), by repeat (first | (with_reducible first | exact HB.out | apply below_alloc | apply pw_below_drewN | apply below_drew1) | exact HB.out)⟩
end Go.Proofs.YtjkjnhcnmjknmaaGreatDoor.Y
end
