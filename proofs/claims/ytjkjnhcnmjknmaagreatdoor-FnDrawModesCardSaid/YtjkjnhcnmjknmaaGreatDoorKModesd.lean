/- Texts of this claim, joined: Y73 Y74 Y76. Of each, what the claim uses. -/
import Derived.Test.YtjkjnhcnmjknmaaGreatDoorKModesc
section
namespace Go.Proofs.YtjkjnhcnmjknmaaGreatDoor.Y
open Go.RowKit Go.Proofs.YtjkjnhcnmjknmaaGreatDoorW.PrintWords Go.Proofs.YtjkjnhcnmjknmaaGreatDoorW.PrintLast Go.Proofs.YtjkjnhcnmjknmaaGreatDoorW.PrintMore
attribute [local go_sem] max2_int min2_int max_two min_two max_three min_three max_four min_four   -- for this text's walks alone
set_option linter.unusedVariables false
set_option linter.unusedSimpArgs false
set_option maxHeartbeats 8000000 in
set_option maxRecDepth 100000 in
theorem laws_zzFits9.calls (k : Nat) (A0 : Option Addr) (c0 : Nat) (l0 : List (S43)) (r : Bool) (w : World) (hr0 : Kd.C k43 w A0 l0.length l0) (hc0 : l0.length ≤ c0) (h : laws_zzFits9.f k l0 = some r) :
    Calls Tryz.prog 16 #[.slice A0 l0.length c0] w fun e w' => e = .returned (.bool r) ∧ Below w.heap.size w w' := by
  have hu43 := Tryz.underlying43
  have HR0 := Aside0.mk hr0
  have HC0 := Aside0.mk hc0
  clear hr0 hc0
  have HB := Aside0.mk (Below.refl w.heap.size w)
  have H : (if (l0.length : Int) > 2147483647 then (some false) else (laws_zzFits9.l0 k l0 (l0.length : Int) 0)) = some r := h
  clear h
  by_cases c2 : (l0.length : Int) > 2147483647
  · rw [if_pos c2] at H
    have c2b0 : decide (2147483647 < (l0.length : Int)) = true := decide_eq_true c2
    have c2b1 : decide (2147483647 < l0.length) = true := decide_eq_true (by omega)
    clear c2
    obtain rfl := Option.some.inj H
    go_enter Tryz.func16, Tryz.ntmps16
    go_wp2
    go_ret
    exact ⟨by first | rfl | (simp [errW_none, errW_some] <;> rfl) | (simp [*, errW_none, errW_some] <;> rfl), by repeat (first | (with_reducible first | exact HB.out | apply below_alloc | apply pw_below_drewN | apply below_drew1) | exact HB.out)⟩
  · rw [if_neg c2] at H
    have c2b0 : decide (2147483647 < (l0.length : Int)) = false := decide_eq_false c2
    have c2b1 : decide (2147483647 < l0.length) = false := decide_eq_false (by omega)
    clear c2
    have H' := Aside0.mk H
    clear H
    go_enter Tryz.func16, Tryz.ntmps16
    go_wp2
    go_loopg [10] k (fun kq v10 w' => ∃ (x10_1 : Int), v10 = .int .i64 x10_1 ∧ Aside0 (laws_zzFits9.l0 kq l0 (l0.length : Int) x10_1 = some r) ∧ Aside0 (kq ≤ k) ∧ Aside0 (Below w.heap.size w w'))
    case atStart => exact ⟨(0), (by first | rfl | (simp; done) | (simp [*]; done)), H', ⟨Nat.le_refl _⟩, ⟨by repeat (first | (with_reducible first | exact HB.out | apply below_alloc | apply pw_below_drewN | apply below_drew1) | exact HB.out)⟩⟩
    case round =>
      clear H'
      try clear c1
      try clear c2
      try clear c2b0
      try clear c2b1
      try clear p2
      obtain ⟨x10_1, rfl, HA, HK1, HB⟩ := hrel
      cases gk with
      | zero => exact absurd HA.out (by simp [laws_zzFits9.l0])
      | succ k1 =>
        have H := HA.out
        clear HA
        simp only [laws_zzFits9.l0] at H
        by_cases c3 : x10_1 < (l0.length : Int)
        · rw [if_pos c3] at H
          have c3b0 : decide (x10_1 < (l0.length : Int)) = true := decide_eq_true c3
          clear c3
          by_cases c4 : 0 ≤ x10_1
          · rw [if_pos c4] at H
            have c4b0 : decide (0 ≤ x10_1) = true := decide_eq_true c4
            clear c4
            by_cases c5 : x10_1 < (l0.length : Int)
            · rw [if_pos c5] at H
              have c5b0 : decide (x10_1 < (l0.length : Int)) = true := decide_eq_true c5
              clear c5
              replace H := Option.bind_eq_some_iff.mp H
              obtain ⟨t278, A60, H⟩ := H
              replace H : (if t278 = true then (laws_zzFits9.l0 k1 l0 (l0.length : Int) (wrap64 (x10_1 + 1))) else (some false)) = some r := H
              have A6 := Aside0.mk A60
              clear A60
              by_cases c7 : t278 = true
              · subst c7
                have H1 : (laws_zzFits9.l0 k1 l0 (l0.length : Int) (wrap64 (x10_1 + 1))) = some r := by rw [if_pos rfl] at H; exact H
                clear H
                have H := H1
                clear H1
                have H' := Aside0.mk H
                clear H
                have p276 : 0 ≤ (x10_1 : Int) := of_decide_eq_true (by first | (with_reducible assumption) | assumption)
                have q276 : x10_1 < (l0.length : Int) := of_decide_eq_true (by first | (with_reducible assumption) | assumption)
                obtain ⟨ad276, A276_1, c276_1, e276, hx276_0, hx276_1, hl276_1, hi276_1⟩ := at_T43 HR0.out x10_1 p276 q276
                cases e276
                replace hx276_0 := (HB.out.cell (World.block_lt_of_cell? w _ hx276_0)).trans hx276_0
                replace hx276_1 := (HB.out.cell (World.block_lt_of_cell? w _ hx276_1)).trans hx276_1
                have HR276_1 := Aside0.mk hi276_1
                have HC276_1 := Aside0.mk hl276_1
                clear hi276_1 hl276_1
                replace p276 := eq_true p276
                replace q276 := eq_true q276
                go_wp2_with (first | ((with_reducible refine gate_dst (N := 4) rfl ?_); refine box_event ?hg (N := 4) ?hd (cs := #[.bool false, .slice none 0 0]) (t := 43) ?hr ?_; (case hd => rfl); (case hg => rfl); (case hr => first | (go_simp; done) | (go_simp; rfl)); intro gb277 hg w8 hbox hb; have n0_ := Aside0.mk (below_step (by repeat (first | (with_reducible first | exact HB.out | apply below_alloc | apply pw_below_drewN | apply below_drew1) | exact HB.out)) hb); have n1_ := Aside0.mk (hbox); have n2_ := Aside0.mk ((by rw [hg]; exact (below_size (by repeat (first | (with_reducible first | exact HB.out | apply below_alloc | apply pw_below_drewN | apply below_drew1) | exact HB.out))) : w.heap.size ≤ gb277)); have n3_ := Aside0.mk ((by rw [hg]; exact (below_size (by repeat (first | (with_reducible first | exact HB.out | apply below_alloc | apply pw_below_drewN | apply below_drew1) | exact HB.out))) : w.heap.size ≤ gb277)); clear HB; have HB := n0_; have BK277 := n1_; have GW277 := n2_; have GE277 := n3_; clear n0_ n1_ n2_ n3_; clear hb hbox hg; have hcz9_0 : w8.cell? ⟨gb277, 0, none⟩ = some (.bool false) := (blk_cell BK277.out 0).trans rfl; have hcz9_1 : w8.cell? ⟨gb277, 1, none⟩ = some (.slice none 0 0) := (blk_cell BK277.out 1).trans rfl; have hfz9_0 := blk_frozen BK277.out 0; have hfz9_1 := blk_frozen BK277.out 1) | ((with_reducible refine gate_callee (f := 38) rfl ?_); refine goesL_ (some 15) rfl rfl Tryz.func38 (by kernel_rfl) rfl #[.agg #[.bool ((rd_T43 l0 x10_1).f0), .slice A276_1 ((rd_T43 l0 x10_1).f1).length c276_1]] rfl (by (try simp only [List.map_toArray, List.map_cons, List.map_nil]); first | done | rfl | (simp only [List.length_drop, List.length_take]; rfl)) ?_; (with_reducible refine (laws_zzFits10.calls ((rd_T43 l0 x10_1).f0) _ _ ((rd_T43 l0 x10_1).f1) true _ ?side1 ?side2 A6.out).mono ?_); (case side1 => exact Kd.C_below HR276_1.out (by repeat (first | (with_reducible first | exact HB.out | apply below_alloc | apply pw_below_drewN | apply below_drew1 | refine below_set ?_ GE277.out) | exact HB.out))); (case side2 => exact HC276_1.out); rintro e w10 ⟨rfl, hb⟩; refine ⟨_, rfl, ?_⟩; have n0_ := Aside0.mk (blk_below (g := gb277) (o := .cells #[.bool ((rd_T43 l0 x10_1).f0), .slice A276_1 ((rd_T43 l0 x10_1).f1).length c276_1] 43 (0, 0)) (by (with_reducible repeat (first | refine blk_drewN ?_ _ | refine blk_drew ?_ | refine blk_alloc ?_ _)); refine blk_put (cs := #[.bool ((rd_T43 l0 x10_1).f0), .slice none 0 0]) ?_ 1 _ rfl; (with_reducible repeat (first | refine blk_drewN ?_ _ | refine blk_drew ?_ | refine blk_alloc ?_ _)); refine blk_put (cs := #[.bool false, .slice none 0 0]) ?_ 0 _ rfl; (with_reducible repeat (first | refine blk_drewN ?_ _ | refine blk_drew ?_ | refine blk_alloc ?_ _)); exact BK277.out) hb); have n1_ := Aside0.mk (below_step (by repeat (first | (with_reducible first | exact HB.out | apply below_alloc | apply pw_below_drewN | apply below_drew1 | refine below_set ?_ GE277.out) | exact HB.out)) hb); clear BK277; clear HB; have BK277 := n0_; have HB := n1_; clear n0_ n1_; (try clear hb); (try clear hb2); (try clear hk); (try clear hi)))
                go_roundg k1
                case measure => have := HK1.out; omega
                case rel => exact ⟨(wrap64 (x10_1 + 1)), (by first | rfl | (simp; done) | (simp [*]; done)), H', ⟨by have := HK1.out; omega⟩, ⟨by repeat (first | (with_reducible first | exact HB.out | apply below_alloc | apply pw_below_drewN | apply below_drew1 | refine below_set ?_ GE277.out) | exact HB.out)⟩⟩
              · replace c7 := Bool.eq_false_iff.mpr c7
                subst c7
                have H1 : (some false) = some r := by rw [if_neg (show ¬ (false = true) by decide)] at H; exact H
                clear H
                have H := H1
                clear H1
                obtain rfl := Option.some.inj H
                have p276 : 0 ≤ (x10_1 : Int) := of_decide_eq_true (by first | (with_reducible assumption) | assumption)
                have q276 : x10_1 < (l0.length : Int) := of_decide_eq_true (by first | (with_reducible assumption) | assumption)
                obtain ⟨ad276, A276_1, c276_1, e276, hx276_0, hx276_1, hl276_1, hi276_1⟩ := at_T43 HR0.out x10_1 p276 q276
                cases e276
                replace hx276_0 := (HB.out.cell (World.block_lt_of_cell? w _ hx276_0)).trans hx276_0
                replace hx276_1 := (HB.out.cell (World.block_lt_of_cell? w _ hx276_1)).trans hx276_1
                have HR276_1 := Aside0.mk hi276_1
                have HC276_1 := Aside0.mk hl276_1
                clear hi276_1 hl276_1
                replace p276 := eq_true p276
                replace q276 := eq_true q276
                go_wp2_with (first | ((with_reducible refine gate_dst (N := 4) rfl ?_); refine box_event ?hg (N := 4) ?hd (cs := #[.bool false, .slice none 0 0]) (t := 43) ?hr ?_; (case hd => rfl); (case hg => rfl); (case hr => first | (go_simp; done) | (go_simp; rfl)); intro gb277 hg w11 hbox hb; have n0_ := Aside0.mk (below_step (by repeat (first | (with_reducible first | exact HB.out | apply below_alloc | apply pw_below_drewN | apply below_drew1) | exact HB.out)) hb); have n1_ := Aside0.mk (hbox); have n2_ := Aside0.mk ((by rw [hg]; exact (below_size (by repeat (first | (with_reducible first | exact HB.out | apply below_alloc | apply pw_below_drewN | apply below_drew1) | exact HB.out))) : w.heap.size ≤ gb277)); have n3_ := Aside0.mk ((by rw [hg]; exact (below_size (by repeat (first | (with_reducible first | exact HB.out | apply below_alloc | apply pw_below_drewN | apply below_drew1) | exact HB.out))) : w.heap.size ≤ gb277)); clear HB; have HB := n0_; have BK277 := n1_; have GW277 := n2_; have GE277 := n3_; clear n0_ n1_ n2_ n3_; clear hb hbox hg; have hcz12_0 : w11.cell? ⟨gb277, 0, none⟩ = some (.bool false) := (blk_cell BK277.out 0).trans rfl; have hcz12_1 : w11.cell? ⟨gb277, 1, none⟩ = some (.slice none 0 0) := (blk_cell BK277.out 1).trans rfl; have hfz12_0 := blk_frozen BK277.out 0; have hfz12_1 := blk_frozen BK277.out 1) | ((with_reducible refine gate_callee (f := 38) rfl ?_); refine goesL_ (some 15) rfl rfl Tryz.func38 (by kernel_rfl) rfl #[.agg #[.bool ((rd_T43 l0 x10_1).f0), .slice A276_1 ((rd_T43 l0 x10_1).f1).length c276_1]] rfl (by (try simp only [List.map_toArray, List.map_cons, List.map_nil]); first | done | rfl | (simp only [List.length_drop, List.length_take]; rfl)) ?_; (with_reducible refine (laws_zzFits10.calls ((rd_T43 l0 x10_1).f0) _ _ ((rd_T43 l0 x10_1).f1) false _ ?side1 ?side2 A6.out).mono ?_); (case side1 => exact Kd.C_below HR276_1.out (by repeat (first | (with_reducible first | exact HB.out | apply below_alloc | apply pw_below_drewN | apply below_drew1 | refine below_set ?_ GE277.out) | exact HB.out))); (case side2 => exact HC276_1.out); rintro e w13 ⟨rfl, hb⟩; refine ⟨_, rfl, ?_⟩; have n0_ := Aside0.mk (blk_below (g := gb277) (o := .cells #[.bool ((rd_T43 l0 x10_1).f0), .slice A276_1 ((rd_T43 l0 x10_1).f1).length c276_1] 43 (0, 0)) (by (with_reducible repeat (first | refine blk_drewN ?_ _ | refine blk_drew ?_ | refine blk_alloc ?_ _)); refine blk_put (cs := #[.bool ((rd_T43 l0 x10_1).f0), .slice none 0 0]) ?_ 1 _ rfl; (with_reducible repeat (first | refine blk_drewN ?_ _ | refine blk_drew ?_ | refine blk_alloc ?_ _)); refine blk_put (cs := #[.bool false, .slice none 0 0]) ?_ 0 _ rfl; (with_reducible repeat (first | refine blk_drewN ?_ _ | refine blk_drew ?_ | refine blk_alloc ?_ _)); exact BK277.out) hb); have n1_ := Aside0.mk (below_step (by repeat (first | (with_reducible first | exact HB.out | apply below_alloc | apply pw_below_drewN | apply below_drew1 | refine below_set ?_ GE277.out) | exact HB.out)) hb); clear BK277; clear HB; have BK277 := n0_; have HB := n1_; clear n0_ n1_; (try clear hb); (try clear hb2); (try clear hk); (try clear hi)))
                go_ret
                exact ⟨by first | rfl | (simp [errW_none, errW_some] <;> rfl) | (simp [*, errW_none, errW_some] <;> rfl), by repeat (first | (with_reducible first | exact HB.out | apply below_alloc | apply pw_below_drewN | apply below_drew1 | refine below_set ?_ GE277.out) | exact HB.out)⟩
            · rw [if_neg c5] at H
              exact absurd H (by simp)
          · rw [if_neg c4] at H
            exact absurd H (by simp)
        · rw [if_neg c3] at H
          have c3b0 : decide (x10_1 < (l0.length : Int)) = false := decide_eq_false c3
          clear c3
          obtain rfl := Option.some.inj H
          go_wp2
          go_ret
          exact ⟨by first | rfl | (simp [errW_none, errW_some] <;> rfl) | (simp [*, errW_none, errW_some] <;> rfl), by repeat (first | (with_reducible first | exact HB.out | apply below_alloc | apply pw_below_drewN | apply below_drew1) | exact HB.out)⟩
end Go.Proofs.YtjkjnhcnmjknmaaGreatDoor.Y
end
section
namespace Go.Proofs.YtjkjnhcnmjknmaaGreatDoor.Y
open Go.RowKit Go.Proofs.YtjkjnhcnmjknmaaGreatDoorW.PrintWords Go.Proofs.YtjkjnhcnmjknmaaGreatDoorW.PrintLast Go.Proofs.YtjkjnhcnmjknmaaGreatDoorW.PrintMore
attribute [local go_sem] max2_int min2_int max_two min_two max_three min_three max_four min_four   -- for this text's walks alone
set_option linter.unusedVariables false
set_option linter.unusedSimpArgs false
attribute [local go_sem high] eqA45
set_option maxHeartbeats 8000000 in
set_option maxRecDepth 100000 in
theorem spec_DrawModeWithout.calls (k : Nat) (A0 : Option Addr) (c0 : Nat) (l0 : List (S45)) (a1_0 : Bool) (a1_1 : Int) (r : List (S45)) (w : World) (hr0 : Kd.C k45 w A0 l0.length l0) (hc0 : l0.length ≤ c0) (h : spec_DrawModeWithout.f k l0 a1_0 a1_1 = some r) :
    Calls Tryz.prog 17 #[.slice A0 l0.length c0, .agg #[.bool a1_0, .int .i64 a1_1]] w fun e w' => ∃ v0_ : Value, e = .returned (v0_) ∧ Kd.R k45 45 w' w.heap.size (fun _ => True) v0_ r ∧ Below w.heap.size w w' := by
  have hu45 := Tryz.underlying45
  have HR0 := Aside0.mk hr0
  have HC0 := Aside0.mk hc0
  clear hr0 hc0
  have HB := Aside0.mk (Below.refl w.heap.size w)
  have H : (spec_DrawModeWithout.l0 k ([] : List (S45)) l0 (l0.length : Int) 0 a1_0 a1_1) = some r := h
  clear h
  have H' := Aside0.mk H
  clear H
  go_enter Tryz.func17, Tryz.ntmps17
  go_wp2_with (first | ((with_reducible refine gate_dst (N := 3) rfl ?_); refine box_event ?hg (N := 3) ?hd (cs := #[.bool a1_0, .int .i64 a1_1]) (t := 45) ?hr ?_; (case hd => rfl); (case hg => rfl); (case hr => first | (go_simp; done) | (go_simp; rfl)); intro gb279 hg w3 hbox hb; have n0_ := Aside0.mk (below_step (by repeat (first | (with_reducible first | exact HB.out | apply below_alloc | apply pw_below_drewN | apply below_drew1) | exact HB.out)) hb); have n1_ := Aside0.mk (hbox); have n2_ := Aside0.mk ((by rw [hg]; exact (below_size (by repeat (first | (with_reducible first | exact HB.out | apply below_alloc | apply pw_below_drewN | apply below_drew1) | exact HB.out))) : w.heap.size ≤ gb279)); have n3_ := Aside0.mk ((by rw [hg]; exact (below_size (by repeat (first | (with_reducible first | exact HB.out | apply below_alloc | apply pw_below_drewN | apply below_drew1) | exact HB.out))) : w.heap.size ≤ gb279)); clear HB; have HB := n0_; have BK279 := n1_; have GW279 := n2_; have GE279 := n3_; clear n0_ n1_ n2_ n3_; clear hb hbox hg))
  go_loopg [5, 10] k (fun kq v5 v10 w' => ∃ (x5_1 : List (S45)) (x10_1 : Int), v10 = .int .i64 x10_1 ∧ Aside0 (spec_DrawModeWithout.l0 kq x5_1 l0 (l0.length : Int) x10_1 a1_0 a1_1 = some r) ∧ Aside0 (kq ≤ k) ∧ Aside0 (Kd.R k45 45 w' w.heap.size (fun k_ => k_ ≠ gb279) v5 x5_1) ∧ Aside0 (w'.heap[gb279]? = some (.cells #[.bool a1_0, .int .i64 a1_1] 45 (0, 0))) ∧ Aside0 (Below w.heap.size w w'))
  case atStart => exact ⟨(([] : List (S45))), (0), (by first | rfl | (simp; done) | (simp [*]; done)), H', ⟨Nat.le_refl _⟩, ⟨by first | exact Kd.R_nil _ _ _ _ _ | exact Kd.N_nil _ _ _ _ _ | exact Kd.V_nil _ _ _ _ _ | exact Kd.Q_nil _ _ _ _ _ | exact Kd.S_nil _ _ _ _ _⟩, ⟨by (with_reducible repeat (first | refine blk_drewN ?_ _ | refine blk_drew ?_ | refine blk_alloc ?_ _)); exact BK279.out⟩, ⟨by repeat (first | (with_reducible first | exact HB.out | apply below_alloc | apply pw_below_drewN | apply below_drew1 | refine below_set ?_ GE279.out) | exact HB.out)⟩⟩
  case round =>
    clear H'
    try clear c1
    try clear p2
    obtain ⟨x5_1, x10_1, rfl, HA, HK1, HO_5, BK279, HB⟩ := hrel
    cases gk with
    | zero => exact absurd HA.out (by simp [spec_DrawModeWithout.l0])
    | succ k1 =>
      have H := HA.out
      clear HA
      simp only [spec_DrawModeWithout.l0] at H
      by_cases c4 : x10_1 < (l0.length : Int)
      · rw [if_pos c4] at H
        have c4b0 : decide (x10_1 < (l0.length : Int)) = true := decide_eq_true c4
        clear c4
        by_cases c5 : 0 ≤ x10_1
        · rw [if_pos c5] at H
          have c5b0 : decide (0 ≤ x10_1) = true := decide_eq_true c5
          clear c5
          by_cases c6 : x10_1 < (l0.length : Int)
          · rw [if_pos c6] at H
            have c6b0 : decide (x10_1 < (l0.length : Int)) = true := decide_eq_true c6
            clear c6
            by_cases c7 : (!(((rd_T45 l0 x10_1).f0) == a1_0) || (!(((rd_T45 l0 x10_1).f1) == a1_1))) = true
            · rw [if_pos c7] at H
              have c7b0 : (!(((rd_T45 l0 x10_1).f0) == a1_0) || (!(((rd_T45 l0 x10_1).f1) == a1_1))) = true := c7
              clear c7
              by_cases c8 : x5_1.length < 8796093022208
              · rw [if_pos c8] at H
                have LMc8 := Aside0.mk c8
                clear c8
                obtain ⟨y282, hy282⟩ : ∃ y_ : List (S45), y_ = (x5_1 ++ [(⟨(rd_T45 l0 x10_1).f0, (rd_T45 l0 x10_1).f1⟩ : S45)]) := ⟨_, rfl⟩
                replace H : (spec_DrawModeWithout.l0 k1 y282 l0 (l0.length : Int) (wrap64 (x10_1 + 1)) a1_0 a1_1) = some r := by first | (rw [hy282]; with_reducible exact H) | (have H2_ := (Option.bind_some _ _).symm.trans H; rw [hy282]; with_reducible exact H2_) | (have H2_ := (Option.bind_some _ _).symm.trans H; with_reducible exact H2_) | with_reducible exact H | (rw [hy282]; exact H) | exact H
                have Ny282 := Aside0.mk hy282
                clear hy282
                have H' := Aside0.mk H
                clear H
                have p280 : 0 ≤ (x10_1 : Int) := of_decide_eq_true (by first | (with_reducible assumption) | assumption)
                have q280 : x10_1 < (l0.length : Int) := of_decide_eq_true (by first | (with_reducible assumption) | assumption)
                obtain ⟨ad280, e280, hx280_0, hx280_1⟩ := at_T45 HR0.out x10_1 p280 q280
                cases e280
                replace hx280_0 := (HB.out.cell (World.block_lt_of_cell? w _ hx280_0)).trans hx280_0
                replace hx280_1 := (HB.out.cell (World.block_lt_of_cell? w _ hx280_1)).trans hx280_1
                replace p280 := eq_true p280
                replace q280 := eq_true q280
                go_wp2_with (first | ((with_reducible refine gate_dst (N := 7) rfl ?_); refine box_event ?hg (N := 7) ?hd (cs := #[.bool false, .int .i64 0]) (t := 45) ?hr ?_; (case hd => rfl); (case hg => rfl); (case hr => first | (go_simp; done) | (go_simp; rfl)); intro gb281 hg w9 hbox hb; have n0_ := Aside0.mk (Kd.R_below (Kd.R_elderB (by (with_reducible repeat (first | apply Kd.R_alloc | apply Kd.R_drewN | apply Kd.R_drew)); exact HO_5.out) gb281 (Nat.le_of_eq hg.symm)) hb); have n1_ := Aside0.mk (blk_below (g := gb279) (o := .cells #[.bool a1_0, .int .i64 a1_1] 45 (0, 0)) (by (with_reducible repeat (first | refine blk_drewN ?_ _ | refine blk_drew ?_ | refine blk_alloc ?_ _)); exact BK279.out) hb); have n2_ := Aside0.mk (below_step (by repeat (first | (with_reducible first | exact HB.out | apply below_alloc | apply pw_below_drewN | apply below_drew1 | refine below_set ?_ GE279.out) | exact HB.out)) hb); have n3_ := Aside0.mk (hbox); have n4_ := Aside0.mk ((by rw [hg]; exact (below_size (by repeat (first | (with_reducible first | exact HB.out | apply below_alloc | apply pw_below_drewN | apply below_drew1 | refine below_set ?_ GE279.out) | exact HB.out))) : w.heap.size ≤ gb281)); have n5_ := Aside0.mk ((by rw [hg]; exact (below_size (by repeat (first | (with_reducible first | exact HB.out | apply below_alloc | apply pw_below_drewN | apply below_drew1 | refine below_set ?_ GE279.out) | exact HB.out))) : w.heap.size ≤ gb281)); have n6_ := Aside0.mk ((by rw [hg]; exact Nat.ne_of_lt (blk_lt (g := gb279) (o := .cells #[.bool a1_0, .int .i64 a1_1] 45 (0, 0)) (by (with_reducible repeat (first | refine blk_drewN ?_ _ | refine blk_drew ?_ | refine blk_alloc ?_ _)); exact BK279.out)) : gb279 ≠ gb281)); have n7_ := Aside0.mk ((by rw [hg]; exact Nat.ne_of_gt (blk_lt (g := gb279) (o := .cells #[.bool a1_0, .int .i64 a1_1] 45 (0, 0)) (by (with_reducible repeat (first | refine blk_drewN ?_ _ | refine blk_drew ?_ | refine blk_alloc ?_ _)); exact BK279.out)) : gb281 ≠ gb279)); clear HO_5; clear BK279; clear HB; have HO_5 := n0_; have BK279 := n1_; have HB := n2_; have BK281 := n3_; have GW281 := n4_; have GE281 := n5_; have NB279_281 := n6_; have NB281_279 := n7_; clear n0_ n1_ n2_ n3_ n4_ n5_ n6_ n7_; clear hb hbox hg; have hnb10 := NB281_279.out; have hnc10 := NB279_281.out; have hcz11_0 : w9.cell? ⟨gb281, 0, none⟩ = some (.bool false) := (blk_cell BK281.out 0).trans rfl; have hcz11_1 : w9.cell? ⟨gb281, 1, none⟩ = some (.int .i64 0) := (blk_cell BK281.out 1).trans rfl; have hfz11_0 := blk_frozen BK281.out 0; have hfz11_1 := blk_frozen BK281.out 1; have hcz12_0 : w9.cell? ⟨gb279, 0, none⟩ = some (.bool a1_0) := (blk_cell BK279.out 0).trans rfl; have hcz12_1 : w9.cell? ⟨gb279, 1, none⟩ = some (.int .i64 a1_1) := (blk_cell BK279.out 1).trans rfl; have hfz12_0 := blk_frozen BK279.out 0; have hfz12_1 := blk_frozen BK279.out 1) | ((with_reducible refine gate_builtin (b := .append) (xs := #[.tmp 17, .tmp 19]) rfl ?_); at_builtin; refine Kd.R_append k45 (w0 := w) w.heap.size rfl (.tmp 17) (.tmp 19) 40 45 (.agg #[(.bool false), (.int .i64 0)]) 16 rfl Tryz.underlying40 info45 rfl (by decide) (by omega) u5 x5_1 (⟨(rd_T45 l0 x10_1).f0, (rd_T45 l0 x10_1).f1⟩ : S45) [.bool ((rd_T45 l0 x10_1).f0), .int .i64 ((rd_T45 l0 x10_1).f1)] (fun k_ => k_ ≠ gb279 ∧ k_ ≠ gb281) (fun _ => False) rfl (by first | (go_simp; done) | (go_simp; rfl)) ?aP (fun _ hk => hk.elim) ?aF ?aO ?aB ?aS ?aL ?_; (case aP => exact k45_mkM _ _ _ (⟨(rd_T45 l0 x10_1).f0, (rd_T45 l0 x10_1).f1⟩ : S45)); (case aB => exact (by repeat (first | (with_reducible first | exact HB.out | apply below_alloc | apply pw_below_drewN | apply below_drew1 | refine below_set ?_ GE279.out | refine below_set ?_ GE281.out) | exact HB.out))); (case aF => exact (fun k_ hk => ⟨Kd.freshB (g := gb279) (o := .cells #[.bool a1_0, .int .i64 a1_1] 45 (0, 0)) (by (with_reducible repeat (first | refine blk_drewN ?_ _ | refine blk_drew ?_ | refine blk_alloc ?_ _)); refine blk_far ?_ NB279_281.out _; (with_reducible repeat (first | refine blk_drewN ?_ _ | refine blk_drew ?_ | refine blk_alloc ?_ _)); refine blk_far ?_ NB279_281.out _; (with_reducible repeat (first | refine blk_drewN ?_ _ | refine blk_drew ?_ | refine blk_alloc ?_ _)); exact BK279.out) k_ hk, Kd.freshB (g := gb281) (o := .cells #[.bool ((rd_T45 l0 x10_1).f0), .int .i64 ((rd_T45 l0 x10_1).f1)] 45 (0, 0)) (by (with_reducible repeat (first | refine blk_drewN ?_ _ | refine blk_drew ?_ | refine blk_alloc ?_ _)); refine blk_put (cs := #[.bool ((rd_T45 l0 x10_1).f0), .int .i64 0]) ?_ 1 _ rfl; (with_reducible repeat (first | refine blk_drewN ?_ _ | refine blk_drew ?_ | refine blk_alloc ?_ _)); refine blk_put (cs := #[.bool false, .int .i64 0]) ?_ 0 _ rfl; (with_reducible repeat (first | refine blk_drewN ?_ _ | refine blk_drew ?_ | refine blk_alloc ?_ _)); exact BK281.out) k_ hk⟩)); (case aO => exact (by (with_reducible repeat (first | apply Kd.R_alloc | apply Kd.R_drewN | apply Kd.R_drew)); exact Kd.R_mono (Kd.R_far (p := ⟨gb281, 1, none⟩) (Kd.R_far (p := ⟨gb281, 0, none⟩) (Kd.R_mono HO_5.out (fun k_ hk => (⟨hk, hk.2⟩ : _ ∧ k_ ≠ gb281))) (fun _ hk => hk.2) (.bool ((rd_T45 l0 x10_1).f0))) (fun _ hk => hk.2) (.int .i64 ((rd_T45 l0 x10_1).f1))) (fun _ hk => ⟨hk.1.1, hk.1.2⟩))); (case aS => exact (below_size (by repeat (first | (with_reducible first | exact HB.out | apply below_alloc | apply pw_below_drewN | apply below_drew1 | refine below_set ?_ GE279.out | refine below_set ?_ GE281.out) | exact HB.out)))); (case aL => have := LMc8.out; omega); intro v283 w13 ho hb hg hat; rw [← Ny282.out] at ho; have n0_ := Aside0.mk (blk_grown (g := gb279) (o := .cells #[.bool a1_0, .int .i64 a1_1] 45 (0, 0)) (by (with_reducible repeat (first | refine blk_drewN ?_ _ | refine blk_drew ?_ | refine blk_alloc ?_ _)); refine blk_far ?_ NB279_281.out _; (with_reducible repeat (first | refine blk_drewN ?_ _ | refine blk_drew ?_ | refine blk_alloc ?_ _)); refine blk_far ?_ NB279_281.out _; (with_reducible repeat (first | refine blk_drewN ?_ _ | refine blk_drew ?_ | refine blk_alloc ?_ _)); exact BK279.out) hg (Kd.R_away HO_5.out (fun _ hk => hk.1))); have n1_ := Aside0.mk (blk_grown (g := gb281) (o := .cells #[.bool ((rd_T45 l0 x10_1).f0), .int .i64 ((rd_T45 l0 x10_1).f1)] 45 (0, 0)) (by (with_reducible repeat (first | refine blk_drewN ?_ _ | refine blk_drew ?_ | refine blk_alloc ?_ _)); refine blk_put (cs := #[.bool ((rd_T45 l0 x10_1).f0), .int .i64 0]) ?_ 1 _ rfl; (with_reducible repeat (first | refine blk_drewN ?_ _ | refine blk_drew ?_ | refine blk_alloc ?_ _)); refine blk_put (cs := #[.bool false, .int .i64 0]) ?_ 0 _ rfl; (with_reducible repeat (first | refine blk_drewN ?_ _ | refine blk_drew ?_ | refine blk_alloc ?_ _)); exact BK281.out) hg (Kd.R_away HO_5.out (fun _ hk => hk.2))); have n2_ := Aside0.mk (hb); have n3_ := Aside0.mk (ho); clear BK279; clear BK281; clear HB; clear HO_5; have BK279 := n0_; have BK281 := n1_; have HB := n2_; have HO284 := n3_; clear n0_ n1_ n2_ n3_; clear ho hb hg hat))
                go_roundg k1
                case measure => have := HK1.out; omega
                case rel => exact ⟨(y282), (wrap64 (x10_1 + 1)), (by first | rfl | (simp; done) | (simp [*]; done)), H', ⟨by have := HK1.out; omega⟩, ⟨by (with_reducible repeat (first | apply Kd.R_alloc | apply Kd.R_drewN | apply Kd.R_drew)); exact Kd.R_mono HO284.out (fun _ hk => hk.1)⟩, ⟨by (with_reducible repeat (first | refine blk_drewN ?_ _ | refine blk_drew ?_ | refine blk_alloc ?_ _)); exact BK279.out⟩, ⟨by repeat (first | (with_reducible first | exact HB.out | apply below_alloc | apply pw_below_drewN | apply below_drew1 | refine below_set ?_ GE279.out | refine below_set ?_ GE281.out) | exact HB.out)⟩⟩
              · rw [if_neg c8] at H
                exact absurd H (by simp)
            · rw [if_neg c7] at H
              have c7b0 : (!(((rd_T45 l0 x10_1).f0) == a1_0) || (!(((rd_T45 l0 x10_1).f1) == a1_1))) = false := by simpa using c7
              clear c7
              have H' := Aside0.mk H
              clear H
              have p280 : 0 ≤ (x10_1 : Int) := of_decide_eq_true (by first | (with_reducible assumption) | assumption)
              have q280 : x10_1 < (l0.length : Int) := of_decide_eq_true (by first | (with_reducible assumption) | assumption)
              obtain ⟨ad280, e280, hx280_0, hx280_1⟩ := at_T45 HR0.out x10_1 p280 q280
              cases e280
              replace hx280_0 := (HB.out.cell (World.block_lt_of_cell? w _ hx280_0)).trans hx280_0
              replace hx280_1 := (HB.out.cell (World.block_lt_of_cell? w _ hx280_1)).trans hx280_1
              replace p280 := eq_true p280
              replace q280 := eq_true q280
              go_wp2_with (first | ((with_reducible refine gate_dst (N := 7) rfl ?_); refine box_event ?hg (N := 7) ?hd (cs := #[.bool false, .int .i64 0]) (t := 45) ?hr ?_; (case hd => rfl); (case hg => rfl); (case hr => first | (go_simp; done) | (go_simp; rfl)); intro gb281 hg w14 hbox hb; have n0_ := Aside0.mk (Kd.R_below (Kd.R_elderB (by (with_reducible repeat (first | apply Kd.R_alloc | apply Kd.R_drewN | apply Kd.R_drew)); exact HO_5.out) gb281 (Nat.le_of_eq hg.symm)) hb); have n1_ := Aside0.mk (blk_below (g := gb279) (o := .cells #[.bool a1_0, .int .i64 a1_1] 45 (0, 0)) (by (with_reducible repeat (first | refine blk_drewN ?_ _ | refine blk_drew ?_ | refine blk_alloc ?_ _)); exact BK279.out) hb); have n2_ := Aside0.mk (below_step (by repeat (first | (with_reducible first | exact HB.out | apply below_alloc | apply pw_below_drewN | apply below_drew1 | refine below_set ?_ GE279.out) | exact HB.out)) hb); have n3_ := Aside0.mk (hbox); have n4_ := Aside0.mk ((by rw [hg]; exact (below_size (by repeat (first | (with_reducible first | exact HB.out | apply below_alloc | apply pw_below_drewN | apply below_drew1 | refine below_set ?_ GE279.out) | exact HB.out))) : w.heap.size ≤ gb281)); have n5_ := Aside0.mk ((by rw [hg]; exact (below_size (by repeat (first | (with_reducible first | exact HB.out | apply below_alloc | apply pw_below_drewN | apply below_drew1 | refine below_set ?_ GE279.out) | exact HB.out))) : w.heap.size ≤ gb281)); have n6_ := Aside0.mk ((by rw [hg]; exact Nat.ne_of_lt (blk_lt (g := gb279) (o := .cells #[.bool a1_0, .int .i64 a1_1] 45 (0, 0)) (by (with_reducible repeat (first | refine blk_drewN ?_ _ | refine blk_drew ?_ | refine blk_alloc ?_ _)); exact BK279.out)) : gb279 ≠ gb281)); have n7_ := Aside0.mk ((by rw [hg]; exact Nat.ne_of_gt (blk_lt (g := gb279) (o := .cells #[.bool a1_0, .int .i64 a1_1] 45 (0, 0)) (by (with_reducible repeat (first | refine blk_drewN ?_ _ | refine blk_drew ?_ | refine blk_alloc ?_ _)); exact BK279.out)) : gb281 ≠ gb279)); clear HO_5; clear BK279; clear HB; have HO_5 := n0_; have BK279 := n1_; have HB := n2_; have BK281 := n3_; have GW281 := n4_; have GE281 := n5_; have NB279_281 := n6_; have NB281_279 := n7_; clear n0_ n1_ n2_ n3_ n4_ n5_ n6_ n7_; clear hb hbox hg; have hnb15 := NB281_279.out; have hnc15 := NB279_281.out; have hcz16_0 : w14.cell? ⟨gb281, 0, none⟩ = some (.bool false) := (blk_cell BK281.out 0).trans rfl; have hcz16_1 : w14.cell? ⟨gb281, 1, none⟩ = some (.int .i64 0) := (blk_cell BK281.out 1).trans rfl; have hfz16_0 := blk_frozen BK281.out 0; have hfz16_1 := blk_frozen BK281.out 1; have hcz17_0 : w14.cell? ⟨gb279, 0, none⟩ = some (.bool a1_0) := (blk_cell BK279.out 0).trans rfl; have hcz17_1 : w14.cell? ⟨gb279, 1, none⟩ = some (.int .i64 a1_1) := (blk_cell BK279.out 1).trans rfl; have hfz17_0 := blk_frozen BK279.out 0; have hfz17_1 := blk_frozen BK279.out 1))
              go_roundg k1
              case measure => have := HK1.out; omega
              case rel => exact ⟨(x5_1), (wrap64 (x10_1 + 1)), (by first | rfl | (simp; done) | (simp [*]; done)), H', ⟨by have := HK1.out; omega⟩, ⟨by (with_reducible repeat (first | apply Kd.R_alloc | apply Kd.R_drewN | apply Kd.R_drew)); exact Kd.R_mono (Kd.R_far (p := ⟨gb281, 1, none⟩) (Kd.R_far (p := ⟨gb281, 0, none⟩) (Kd.R_mono HO_5.out (fun k_ hk => (⟨hk, hk.2⟩ : _ ∧ k_ ≠ gb281))) (fun _ hk => hk.2) (.bool ((rd_T45 l0 x10_1).f0))) (fun _ hk => hk.2) (.int .i64 ((rd_T45 l0 x10_1).f1))) (fun _ hk => hk.1.1)⟩, ⟨by (with_reducible repeat (first | refine blk_drewN ?_ _ | refine blk_drew ?_ | refine blk_alloc ?_ _)); refine blk_far ?_ NB279_281.out _; (with_reducible repeat (first | refine blk_drewN ?_ _ | refine blk_drew ?_ | refine blk_alloc ?_ _)); refine blk_far ?_ NB279_281.out _; (with_reducible repeat (first | refine blk_drewN ?_ _ | refine blk_drew ?_ | refine blk_alloc ?_ _)); exact BK279.out⟩, ⟨by repeat (first | (with_reducible first | exact HB.out | apply below_alloc | apply pw_below_drewN | apply below_drew1 | refine below_set ?_ GE279.out | refine below_set ?_ GE281.out) | exact HB.out)⟩⟩
          · rw [if_neg c6] at H
            exact absurd H (by simp)
        · rw [if_neg c5] at H
          exact absurd H (by simp)
      · rw [if_neg c4] at H
        have c4b0 : decide (x10_1 < (l0.length : Int)) = false := decide_eq_false c4
        clear c4
        obtain rfl := Option.some.inj H
        go_wp2
        go_ret
        exact ⟨_, by first | rfl | (simp [errW_none, errW_some] <;> rfl) | (simp [*, errW_none, errW_some] <;> rfl), by (with_reducible repeat (first | apply Kd.R_alloc | apply Kd.R_drewN | apply Kd.R_drew)); exact Kd.R_mono HO_5.out (fun _ hk => trivial), by repeat (first | (with_reducible first | exact HB.out | apply below_alloc | apply pw_below_drewN | apply below_drew1 | refine below_set ?_ GE279.out) | exact HB.out)⟩
end Go.Proofs.YtjkjnhcnmjknmaaGreatDoor.Y
end
section
namespace Go.Proofs.YtjkjnhcnmjknmaaGreatDoor.Y
open Go.RowKit Go.Proofs.YtjkjnhcnmjknmaaGreatDoorW.PrintWords Go.Proofs.YtjkjnhcnmjknmaaGreatDoorW.PrintLast Go.Proofs.YtjkjnhcnmjknmaaGreatDoorW.PrintMore
attribute [local go_sem] max2_int min2_int max_two min_two max_three min_three max_four min_four   -- for this text's walks alone
set_option linter.unusedVariables false
set_option linter.unusedSimpArgs false
set_option maxHeartbeats 8000000 in
set_option maxRecDepth 100000 in
theorem spec_SameDrawModes.calls (k : Nat) (A0 : Option Addr) (c0 : Nat) (l0 : List (S45)) (A1 : Option Addr) (c1 : Nat) (l1 : List (S45)) (r : Bool) (w : World) (hr0 : Kd.C k45 w A0 l0.length l0) (hc0 : l0.length ≤ c0) (hr1 : Kd.C k45 w A1 l1.length l1) (hc1 : l1.length ≤ c1) (h : spec_SameDrawModes.f k l0 l1 = some r) :
    Calls Tryz.prog 19 #[.slice A0 l0.length c0, .slice A1 l1.length c1] w fun e w' => e = .returned (.bool r) ∧ Below w.heap.size w w' := by
  have hu45 := Tryz.underlying45
  have HR0 := Aside0.mk hr0
  have HC0 := Aside0.mk hc0
  clear hr0 hc0
  have HR1 := Aside0.mk hr1
  have HC1 := Aside0.mk hc1
  clear hr1 hc1
  have HB := Aside0.mk (Below.refl w.heap.size w)
  have H : (if (l0.length : Int) = (l1.length : Int) then (spec_SameDrawModes.l0 k l1 l0 (l0.length : Int) 0) else (some false)) = some r := h
  clear h
  by_cases c3 : (l0.length : Int) = (l1.length : Int)
  · rw [if_pos c3] at H
    have c3b0 : ((l0.length : Int) == (l1.length : Int)) = true := beq_iff_eq.mpr c3
    have c3b1 : ((l0.length : Int) != (l1.length : Int)) = false := bne_eq_false_iff_eq.mpr c3
    have c3b2 : (l0.length == l1.length) = true := by first | simpa using c3 | (simp at c3 ⊢; omega)
    clear c3
    have H' := Aside0.mk H
    clear H
    go_enter Tryz.func19, Tryz.ntmps19
    go_wp2
    go_loopg [14] k (fun kq v14 w' => ∃ (x14_1 : Int), v14 = .int .i64 x14_1 ∧ Aside0 (spec_SameDrawModes.l0 kq l1 l0 (l0.length : Int) x14_1 = some r) ∧ Aside0 (kq ≤ k) ∧ Aside0 (Below w.heap.size w w'))
    case atStart => exact ⟨(0), (by first | rfl | (simp; done) | (simp [*]; done)), H', ⟨Nat.le_refl _⟩, ⟨by repeat (first | (with_reducible first | exact HB.out | apply below_alloc | apply pw_below_drewN | apply below_drew1) | exact HB.out)⟩⟩
    case round =>
      clear H'
      try clear c1
      try clear p2
      try clear c3
      try clear c3b0
      try clear c3b1
      try clear c3b2
      obtain ⟨x14_1, rfl, HA, HK1, HB⟩ := hrel
      cases gk with
      | zero => exact absurd HA.out (by simp [spec_SameDrawModes.l0])
      | succ k1 =>
        have H := HA.out
        clear HA
        simp only [spec_SameDrawModes.l0] at H
        by_cases c4 : x14_1 < (l0.length : Int)
        · rw [if_pos c4] at H
          have c4b0 : decide (x14_1 < (l0.length : Int)) = true := decide_eq_true c4
          clear c4
          by_cases c5 : 0 ≤ x14_1
          · rw [if_pos c5] at H
            have c5b0 : decide (0 ≤ x14_1) = true := decide_eq_true c5
            clear c5
            by_cases c6 : x14_1 < (l0.length : Int)
            · rw [if_pos c6] at H
              have c6b0 : decide (x14_1 < (l0.length : Int)) = true := decide_eq_true c6
              clear c6
              replace H := Option.bind_eq_some_iff.mp H
              obtain ⟨t287, A70, H⟩ := H
              replace H : (if (t287.length : Int) = (wrap64 ((l1.length : Int) - 1)) then (spec_SameDrawModes.l0 k1 l1 l0 (l0.length : Int) (wrap64 (x14_1 + 1))) else (some false)) = some r := H
              have A7 := Aside0.mk A70
              clear A70
              by_cases c8 : (t287.length : Int) = (wrap64 ((l1.length : Int) - 1))
              · rw [if_pos c8] at H
                have c8b0 : ((t287.length : Int) == (wrap64 ((l1.length : Int) - 1))) = true := beq_iff_eq.mpr c8
                have c8b1 : ((t287.length : Int) != (wrap64 ((l1.length : Int) - 1))) = false := bne_eq_false_iff_eq.mpr c8
                clear c8
                have H' := Aside0.mk H
                clear H
                have p285 : 0 ≤ (x14_1 : Int) := of_decide_eq_true (by first | (with_reducible assumption) | assumption)
                have q285 : x14_1 < (l0.length : Int) := of_decide_eq_true (by first | (with_reducible assumption) | assumption)
                obtain ⟨ad285, e285, hx285_0, hx285_1⟩ := at_T45 HR0.out x14_1 p285 q285
                cases e285
                replace hx285_0 := (HB.out.cell (World.block_lt_of_cell? w _ hx285_0)).trans hx285_0
                replace hx285_1 := (HB.out.cell (World.block_lt_of_cell? w _ hx285_1)).trans hx285_1
                replace p285 := eq_true p285
                replace q285 := eq_true q285
                go_wp2_with (first | ((with_reducible refine gate_dst (N := 6) rfl ?_); refine box_event ?hg (N := 6) ?hd (cs := #[.bool false, .int .i64 0]) (t := 45) ?hr ?_; (case hd => rfl); (case hg => rfl); (case hr => first | (go_simp; done) | (go_simp; rfl)); intro gb286 hg w9 hbox hb; have n0_ := Aside0.mk (below_step (by repeat (first | (with_reducible first | exact HB.out | apply below_alloc | apply pw_below_drewN | apply below_drew1) | exact HB.out)) hb); have n1_ := Aside0.mk (hbox); have n2_ := Aside0.mk ((by rw [hg]; exact (below_size (by repeat (first | (with_reducible first | exact HB.out | apply below_alloc | apply pw_below_drewN | apply below_drew1) | exact HB.out))) : w.heap.size ≤ gb286)); have n3_ := Aside0.mk ((by rw [hg]; exact (below_size (by repeat (first | (with_reducible first | exact HB.out | apply below_alloc | apply pw_below_drewN | apply below_drew1) | exact HB.out))) : w.heap.size ≤ gb286)); clear HB; have HB := n0_; have BK286 := n1_; have GW286 := n2_; have GE286 := n3_; clear n0_ n1_ n2_ n3_; clear hb hbox hg; have hcz10_0 : w9.cell? ⟨gb286, 0, none⟩ = some (.bool false) := (blk_cell BK286.out 0).trans rfl; have hcz10_1 : w9.cell? ⟨gb286, 1, none⟩ = some (.int .i64 0) := (blk_cell BK286.out 1).trans rfl; have hfz10_0 := blk_frozen BK286.out 0; have hfz10_1 := blk_frozen BK286.out 1) | ((with_reducible refine gate_callee (f := 17) rfl ?_); refine goesL_ (some 20) rfl rfl Tryz.func17 (by kernel_rfl) rfl #[.slice A1 l1.length c1, .agg #[.bool ((rd_T45 l0 x14_1).f0), .int .i64 ((rd_T45 l0 x14_1).f1)]] rfl (by (try simp only [List.map_toArray, List.map_cons, List.map_nil]); first | done | rfl | (simp only [List.length_drop, List.length_take]; rfl)) ?_; (with_reducible refine (spec_DrawModeWithout.calls k1 _ _ l1 ((rd_T45 l0 x14_1).f0) ((rd_T45 l0 x14_1).f1) t287 _ ?side1 ?side2 A7.out).mono ?_); (case side1 => exact Kd.C_below HR1.out (by repeat (first | (with_reducible first | exact HB.out | apply below_alloc | apply pw_below_drewN | apply below_drew1 | refine below_set ?_ GE286.out) | exact HB.out))); (case side2 => exact HC1.out); rintro e w11 ⟨v288, rfl, ho0, hb⟩; refine ⟨_, rfl, ?_⟩; have n0_ := Aside0.mk (Kd.R_lower (Kd.R_newB ho0 (g := gb286) (o := .cells #[.bool ((rd_T45 l0 x14_1).f0), .int .i64 ((rd_T45 l0 x14_1).f1)] 45 (0, 0)) (by (with_reducible repeat (first | refine blk_drewN ?_ _ | refine blk_drew ?_ | refine blk_alloc ?_ _)); refine blk_put (cs := #[.bool ((rd_T45 l0 x14_1).f0), .int .i64 0]) ?_ 1 _ rfl; (with_reducible repeat (first | refine blk_drewN ?_ _ | refine blk_drew ?_ | refine blk_alloc ?_ _)); refine blk_put (cs := #[.bool false, .int .i64 0]) ?_ 0 _ rfl; (with_reducible repeat (first | refine blk_drewN ?_ _ | refine blk_drew ?_ | refine blk_alloc ?_ _)); exact BK286.out)) (below_size (by repeat (first | (with_reducible first | exact HB.out | apply below_alloc | apply pw_below_drewN | apply below_drew1 | refine below_set ?_ GE286.out) | exact HB.out)))); have n1_ := Aside0.mk (blk_below (g := gb286) (o := .cells #[.bool ((rd_T45 l0 x14_1).f0), .int .i64 ((rd_T45 l0 x14_1).f1)] 45 (0, 0)) (by (with_reducible repeat (first | refine blk_drewN ?_ _ | refine blk_drew ?_ | refine blk_alloc ?_ _)); refine blk_put (cs := #[.bool ((rd_T45 l0 x14_1).f0), .int .i64 0]) ?_ 1 _ rfl; (with_reducible repeat (first | refine blk_drewN ?_ _ | refine blk_drew ?_ | refine blk_alloc ?_ _)); refine blk_put (cs := #[.bool false, .int .i64 0]) ?_ 0 _ rfl; (with_reducible repeat (first | refine blk_drewN ?_ _ | refine blk_drew ?_ | refine blk_alloc ?_ _)); exact BK286.out) hb); have n2_ := Aside0.mk (below_step (by repeat (first | (with_reducible first | exact HB.out | apply below_alloc | apply pw_below_drewN | apply below_drew1 | refine below_set ?_ GE286.out) | exact HB.out)) hb); clear BK286; clear HB; have HO289 := n0_; have BK286 := n1_; have HB := n2_; clear n0_ n1_ n2_; (try clear hb); (try clear hb2); (try clear hk); (try clear hi); (try clear ho0); obtain ⟨Ao12, co12, eo12⟩ := Kd.R_slice HO289.out; subst eo12))
                go_roundg k1
                case measure => have := HK1.out; omega
                case rel => exact ⟨(wrap64 (x14_1 + 1)), (by first | rfl | (simp; done) | (simp [*]; done)), H', ⟨by have := HK1.out; omega⟩, ⟨by repeat (first | (with_reducible first | exact HB.out | apply below_alloc | apply pw_below_drewN | apply below_drew1 | refine below_set ?_ GE286.out) | exact HB.out)⟩⟩
              · rw [if_neg c8] at H
                have c8b0 : ((t287.length : Int) == (wrap64 ((l1.length : Int) - 1))) = false := beq_eq_false_iff_ne.mpr c8
                have c8b1 : ((t287.length : Int) != (wrap64 ((l1.length : Int) - 1))) = true := bne_iff_ne.mpr c8
                obtain rfl := Option.some.inj H
                have p285 : 0 ≤ (x14_1 : Int) := of_decide_eq_true (by first | (with_reducible assumption) | assumption)
                have q285 : x14_1 < (l0.length : Int) := of_decide_eq_true (by first | (with_reducible assumption) | assumption)
                obtain ⟨ad285, e285, hx285_0, hx285_1⟩ := at_T45 HR0.out x14_1 p285 q285
                cases e285
                replace hx285_0 := (HB.out.cell (World.block_lt_of_cell? w _ hx285_0)).trans hx285_0
                replace hx285_1 := (HB.out.cell (World.block_lt_of_cell? w _ hx285_1)).trans hx285_1
                replace p285 := eq_true p285
                replace q285 := eq_true q285
                go_wp2_with (first | ((with_reducible refine gate_dst (N := 6) rfl ?_); refine box_event ?hg (N := 6) ?hd (cs := #[.bool false, .int .i64 0]) (t := 45) ?hr ?_; (case hd => rfl); (case hg => rfl); (case hr => first | (go_simp; done) | (go_simp; rfl)); intro gb286 hg w13 hbox hb; have n0_ := Aside0.mk (below_step (by repeat (first | (with_reducible first | exact HB.out | apply below_alloc | apply pw_below_drewN | apply below_drew1) | exact HB.out)) hb); have n1_ := Aside0.mk (hbox); have n2_ := Aside0.mk ((by rw [hg]; exact (below_size (by repeat (first | (with_reducible first | exact HB.out | apply below_alloc | apply pw_below_drewN | apply below_drew1) | exact HB.out))) : w.heap.size ≤ gb286)); have n3_ := Aside0.mk ((by rw [hg]; exact (below_size (by repeat (first | (with_reducible first | exact HB.out | apply below_alloc | apply pw_below_drewN | apply below_drew1) | exact HB.out))) : w.heap.size ≤ gb286)); clear HB; have HB := n0_; have BK286 := n1_; have GW286 := n2_; have GE286 := n3_; clear n0_ n1_ n2_ n3_; clear hb hbox hg; have hcz14_0 : w13.cell? ⟨gb286, 0, none⟩ = some (.bool false) := (blk_cell BK286.out 0).trans rfl; have hcz14_1 : w13.cell? ⟨gb286, 1, none⟩ = some (.int .i64 0) := (blk_cell BK286.out 1).trans rfl; have hfz14_0 := blk_frozen BK286.out 0; have hfz14_1 := blk_frozen BK286.out 1) | ((with_reducible refine gate_callee (f := 17) rfl ?_); refine goesL_ (some 20) rfl rfl Tryz.func17 (by kernel_rfl) rfl #[.slice A1 l1.length c1, .agg #[.bool ((rd_T45 l0 x14_1).f0), .int .i64 ((rd_T45 l0 x14_1).f1)]] rfl (by (try simp only [List.map_toArray, List.map_cons, List.map_nil]); first | done | rfl | (simp only [List.length_drop, List.length_take]; rfl)) ?_; (with_reducible refine (spec_DrawModeWithout.calls k1 _ _ l1 ((rd_T45 l0 x14_1).f0) ((rd_T45 l0 x14_1).f1) t287 _ ?side1 ?side2 A7.out).mono ?_); (case side1 => exact Kd.C_below HR1.out (by repeat (first | (with_reducible first | exact HB.out | apply below_alloc | apply pw_below_drewN | apply below_drew1 | refine below_set ?_ GE286.out) | exact HB.out))); (case side2 => exact HC1.out); rintro e w15 ⟨v288, rfl, ho0, hb⟩; refine ⟨_, rfl, ?_⟩; have n0_ := Aside0.mk (Kd.R_lower (Kd.R_newB ho0 (g := gb286) (o := .cells #[.bool ((rd_T45 l0 x14_1).f0), .int .i64 ((rd_T45 l0 x14_1).f1)] 45 (0, 0)) (by (with_reducible repeat (first | refine blk_drewN ?_ _ | refine blk_drew ?_ | refine blk_alloc ?_ _)); refine blk_put (cs := #[.bool ((rd_T45 l0 x14_1).f0), .int .i64 0]) ?_ 1 _ rfl; (with_reducible repeat (first | refine blk_drewN ?_ _ | refine blk_drew ?_ | refine blk_alloc ?_ _)); refine blk_put (cs := #[.bool false, .int .i64 0]) ?_ 0 _ rfl; (with_reducible repeat (first | refine blk_drewN ?_ _ | refine blk_drew ?_ | refine blk_alloc ?_ _)); exact BK286.out)) (below_size (by repeat (first | (with_reducible first | exact HB.out | apply below_alloc | apply pw_below_drewN | apply below_drew1 | refine below_set ?_ GE286.out) | exact HB.out)))); have n1_ := Aside0.mk (blk_below (g := gb286) (o := .cells #[.bool ((rd_T45 l0 x14_1).f0), .int .i64 ((rd_T45 l0 x14_1).f1)] 45 (0, 0)) (by (with_reducible repeat (first | refine blk_drewN ?_ _ | refine blk_drew ?_ | refine blk_alloc ?_ _)); refine blk_put (cs := #[.bool ((rd_T45 l0 x14_1).f0), .int .i64 0]) ?_ 1 _ rfl; (with_reducible repeat (first | refine blk_drewN ?_ _ | refine blk_drew ?_ | refine blk_alloc ?_ _)); refine blk_put (cs := #[.bool false, .int .i64 0]) ?_ 0 _ rfl; (with_reducible repeat (first | refine blk_drewN ?_ _ | refine blk_drew ?_ | refine blk_alloc ?_ _)); exact BK286.out) hb); have n2_ := Aside0.mk (below_step (by repeat (first | (with_reducible first | exact HB.out | apply below_alloc | apply pw_below_drewN | apply below_drew1 | refine below_set ?_ GE286.out) | exact HB.out)) hb); clear BK286; clear HB; have HO289 := n0_; have BK286 := n1_; have HB := n2_; clear n0_ n1_ n2_; (try clear hb); (try clear hb2); (try clear hk); (try clear hi); (try clear ho0); obtain ⟨Ao16, co16, eo16⟩ := Kd.R_slice HO289.out; subst eo16))
                go_ret
                exact ⟨by first | rfl | (simp [errW_none, errW_some] <;> rfl) | (simp [*, errW_none, errW_some] <;> rfl), by repeat (first | (with_reducible first | exact HB.out | apply below_alloc | apply pw_below_drewN | apply below_drew1 | refine below_set ?_ GE286.out) | exact HB.out)⟩
            · rw [if_neg c6] at H
              exact absurd H (by simp)
          · rw [if_neg c5] at H
            exact absurd H (by simp)
        · rw [if_neg c4] at H
          have c4b0 : decide (x14_1 < (l0.length : Int)) = false := decide_eq_false c4
          clear c4
          obtain rfl := Option.some.inj H
          go_wp2
          go_ret
          exact ⟨by first | rfl | (simp [errW_none, errW_some] <;> rfl) | (simp [*, errW_none, errW_some] <;> rfl), by repeat (first | (with_reducible first | exact HB.out | apply below_alloc | apply pw_below_drewN | apply below_drew1) | exact HB.out)⟩
  · rw [if_neg c3] at H
    have c3b0 : ((l0.length : Int) == (l1.length : Int)) = false := beq_eq_false_iff_ne.mpr c3
    have c3b1 : ((l0.length : Int) != (l1.length : Int)) = true := bne_iff_ne.mpr c3
    have c3b2 : (l0.length == l1.length) = false := by first | simpa using c3 | (simp at c3 ⊢; omega)
    obtain rfl := Option.some.inj H
    go_enter Tryz.func19, Tryz.ntmps19
    go_wp2
    go_ret
    exact ⟨by first | rfl | (simp [errW_none, errW_some] <;> rfl) | (simp [*, errW_none, errW_some] <;> rfl), by repeat (first | (with_reducible first | exact HB.out | apply below_alloc | apply pw_below_drewN | apply below_drew1) | exact HB.out)⟩
end Go.Proofs.YtjkjnhcnmjknmaaGreatDoor.Y
end
