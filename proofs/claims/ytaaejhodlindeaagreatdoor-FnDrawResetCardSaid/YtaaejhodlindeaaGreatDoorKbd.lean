/- Texts of this claim, joined: Y4 Y5 WSized. Of each, what the claim uses. -/
import Derived.Test.YtaaejhodlindeaaGreatDoorKac
import Derived.Test.YtaaejhodlindeaaGreatDoorKat
import Derived.SizedLaws
import Derived.ChangeSlices
section
namespace Go.Proofs.YtaaejhodlindeaaGreatDoor.Y
open Go.RowKit Go.Proofs.YtaaejhodlindeaaGreatDoorW.PrintWords Go.Proofs.YtaaejhodlindeaaGreatDoorW.PrintLast Go.Proofs.YtaaejhodlindeaaGreatDoorW.PrintMore
attribute [local go_sem] max2_int min2_int max_two min_two max_three min_three max_four min_four   -- for this text's walks alone
set_option linter.unusedVariables false
set_option linter.unusedSimpArgs false
set_option maxHeartbeats 8000000 in
set_option maxRecDepth 100000 in
theorem laws_zzFits4.calls (a0_0 : Int) (a0_1 : Int) (a0_2 : Int) (a0_3 : ByteArray) (A0_4 : Option Addr) (c0_4 : Nat) (l0_4 : List Int) (r : Bool) (w : World) (hr0_4 : Kd.C (Kd.int .i64) w A0_4 l0_4.length l0_4) (hc0_4 : l0_4.length ≤ c0_4) (h : laws_zzFits4.f a0_0 a0_1 a0_2 a0_3 l0_4 = some r) :
    Calls Tryz.prog 82 #[.agg #[.int .i64 a0_0, .int .i64 a0_1, .int .i64 a0_2, .string a0_3, .slice A0_4 l0_4.length c0_4]] w fun e w' => e = .returned (.bool r) ∧ Below w.heap.size w w' := by
  have hu42 := Tryz.underlying42
  have HR0_4 := Aside0.mk hr0_4
  have HC0_4 := Aside0.mk hc0_4
  clear hr0_4 hc0_4
  have HB := Aside0.mk (Below.refl w.heap.size w)
  have H : (if (a0_3.size : Int) > 2147483647 then (some false) else (if (l0_4.length : Int) > 2147483647 then (some false) else (some true))) = some r := h
  clear h
  by_cases c2 : (a0_3.size : Int) > 2147483647
  · rw [if_pos c2] at H
    have c2b0 : decide (2147483647 < (a0_3.size : Int)) = true := decide_eq_true c2
    have c2b1 : decide (2147483647 < a0_3.size) = true := decide_eq_true (by omega)
    clear c2
    obtain rfl := Option.some.inj H
    go_enter Tryz.func82, Tryz.ntmps82
    go_wp2_with (first | ((with_reducible refine gate_dst (N := 1) rfl ?_); refine box_event ?hg (N := 1) ?hd (cs := #[.int .i64 a0_0, .int .i64 a0_1, .int .i64 a0_2, .string a0_3, .slice A0_4 l0_4.length c0_4]) (t := 42) ?hr ?_; (case hd => rfl); (case hg => rfl); (case hr => first | (go_simp; done) | (go_simp; rfl)); intro gb110 hg w3 hbox hb; have n0_ := Aside0.mk (below_step (by repeat (first | (with_reducible first | exact HB.out | apply below_alloc | apply pw_below_drewN | apply below_drew1) | exact HB.out)) hb); have n1_ := Aside0.mk (hbox); have n2_ := Aside0.mk ((by rw [hg]; exact (below_size (by repeat (first | (with_reducible first | exact HB.out | apply below_alloc | apply pw_below_drewN | apply below_drew1) | exact HB.out))) : w.heap.size ≤ gb110)); have n3_ := Aside0.mk ((by rw [hg]; exact (below_size (by repeat (first | (with_reducible first | exact HB.out | apply below_alloc | apply pw_below_drewN | apply below_drew1) | exact HB.out))) : w.heap.size ≤ gb110)); clear HB; have HB := n0_; have BK110 := n1_; have GW110 := n2_; have GE110 := n3_; clear n0_ n1_ n2_ n3_; clear hb hbox hg; have hcz4_0 : w3.cell? ⟨gb110, 0, none⟩ = some (.int .i64 a0_0) := (blk_cell BK110.out 0).trans rfl; have hcz4_1 : w3.cell? ⟨gb110, 1, none⟩ = some (.int .i64 a0_1) := (blk_cell BK110.out 1).trans rfl; have hcz4_2 : w3.cell? ⟨gb110, 2, none⟩ = some (.int .i64 a0_2) := (blk_cell BK110.out 2).trans rfl; have hcz4_3 : w3.cell? ⟨gb110, 3, none⟩ = some (.string a0_3) := (blk_cell BK110.out 3).trans rfl; have hcz4_4 : w3.cell? ⟨gb110, 4, none⟩ = some (.slice A0_4 l0_4.length c0_4) := (blk_cell BK110.out 4).trans rfl; have hfz4_0 := blk_frozen BK110.out 0; have hfz4_1 := blk_frozen BK110.out 1; have hfz4_2 := blk_frozen BK110.out 2; have hfz4_3 := blk_frozen BK110.out 3; have hfz4_4 := blk_frozen BK110.out 4))
    go_ret
    exact ⟨by first | rfl | (simp [errW_none, errW_some] <;> rfl) | (simp [*, errW_none, errW_some] <;> rfl), by repeat (first | (with_reducible first | exact HB.out | apply below_alloc | apply pw_below_drewN | apply below_drew1 | refine below_set ?_ GE110.out) | exact HB.out)⟩
  · rw [if_neg c2] at H
    have c2b0 : decide (2147483647 < (a0_3.size : Int)) = false := decide_eq_false c2
    have c2b1 : decide (2147483647 < a0_3.size) = false := decide_eq_false (by omega)
    clear c2
    by_cases c5 : (l0_4.length : Int) > 2147483647
    · rw [if_pos c5] at H
      have c5b0 : decide (2147483647 < (l0_4.length : Int)) = true := decide_eq_true c5
      have c5b1 : decide (2147483647 < l0_4.length) = true := decide_eq_true (by omega)
      clear c5
      obtain rfl := Option.some.inj H
      go_enter Tryz.func82, Tryz.ntmps82
      go_wp2_with (first | ((with_reducible refine gate_dst (N := 1) rfl ?_); refine box_event ?hg (N := 1) ?hd (cs := #[.int .i64 a0_0, .int .i64 a0_1, .int .i64 a0_2, .string a0_3, .slice A0_4 l0_4.length c0_4]) (t := 42) ?hr ?_; (case hd => rfl); (case hg => rfl); (case hr => first | (go_simp; done) | (go_simp; rfl)); intro gb110 hg w6 hbox hb; have n0_ := Aside0.mk (below_step (by repeat (first | (with_reducible first | exact HB.out | apply below_alloc | apply pw_below_drewN | apply below_drew1) | exact HB.out)) hb); have n1_ := Aside0.mk (hbox); have n2_ := Aside0.mk ((by rw [hg]; exact (below_size (by repeat (first | (with_reducible first | exact HB.out | apply below_alloc | apply pw_below_drewN | apply below_drew1) | exact HB.out))) : w.heap.size ≤ gb110)); have n3_ := Aside0.mk ((by rw [hg]; exact (below_size (by repeat (first | (with_reducible first | exact HB.out | apply below_alloc | apply pw_below_drewN | apply below_drew1) | exact HB.out))) : w.heap.size ≤ gb110)); clear HB; have HB := n0_; have BK110 := n1_; have GW110 := n2_; have GE110 := n3_; clear n0_ n1_ n2_ n3_; clear hb hbox hg; have hcz7_0 : w6.cell? ⟨gb110, 0, none⟩ = some (.int .i64 a0_0) := (blk_cell BK110.out 0).trans rfl; have hcz7_1 : w6.cell? ⟨gb110, 1, none⟩ = some (.int .i64 a0_1) := (blk_cell BK110.out 1).trans rfl; have hcz7_2 : w6.cell? ⟨gb110, 2, none⟩ = some (.int .i64 a0_2) := (blk_cell BK110.out 2).trans rfl; have hcz7_3 : w6.cell? ⟨gb110, 3, none⟩ = some (.string a0_3) := (blk_cell BK110.out 3).trans rfl; have hcz7_4 : w6.cell? ⟨gb110, 4, none⟩ = some (.slice A0_4 l0_4.length c0_4) := (blk_cell BK110.out 4).trans rfl; have hfz7_0 := blk_frozen BK110.out 0; have hfz7_1 := blk_frozen BK110.out 1; have hfz7_2 := blk_frozen BK110.out 2; have hfz7_3 := blk_frozen BK110.out 3; have hfz7_4 := blk_frozen BK110.out 4))
      go_ret
      exact ⟨by first | rfl | (simp [errW_none, errW_some] <;> rfl) | (simp [*, errW_none, errW_some] <;> rfl), by repeat (first | (with_reducible first | exact HB.out | apply below_alloc | apply pw_below_drewN | apply below_drew1 | refine below_set ?_ GE110.out) | exact HB.out)⟩
    · rw [if_neg c5] at H
      have c5b0 : decide (2147483647 < (l0_4.length : Int)) = false := decide_eq_false c5
      have c5b1 : decide (2147483647 < l0_4.length) = false := decide_eq_false (by omega)
      clear c5
      obtain rfl := Option.some.inj H
      go_enter Tryz.func82, Tryz.ntmps82
      go_wp2_with (first | ((with_reducible refine gate_dst (N := 1) rfl ?_); refine box_event ?hg (N := 1) ?hd (cs := #[.int .i64 a0_0, .int .i64 a0_1, .int .i64 a0_2, .string a0_3, .slice A0_4 l0_4.length c0_4]) (t := 42) ?hr ?_; (case hd => rfl); (case hg => rfl); (case hr => first | (go_simp; done) | (go_simp; rfl)); intro gb110 hg w8 hbox hb; have n0_ := Aside0.mk (below_step (by repeat (first | (with_reducible first | exact HB.out | apply below_alloc | apply pw_below_drewN | apply below_drew1) | exact HB.out)) hb); have n1_ := Aside0.mk (hbox); have n2_ := Aside0.mk ((by rw [hg]; exact (below_size (by repeat (first | (with_reducible first | exact HB.out | apply below_alloc | apply pw_below_drewN | apply below_drew1) | exact HB.out))) : w.heap.size ≤ gb110)); have n3_ := Aside0.mk ((by rw [hg]; exact (below_size (by repeat (first | (with_reducible first | exact HB.out | apply below_alloc | apply pw_below_drewN | apply below_drew1) | exact HB.out))) : w.heap.size ≤ gb110)); clear HB; have HB := n0_; have BK110 := n1_; have GW110 := n2_; have GE110 := n3_; clear n0_ n1_ n2_ n3_; clear hb hbox hg; have hcz9_0 : w8.cell? ⟨gb110, 0, none⟩ = some (.int .i64 a0_0) := (blk_cell BK110.out 0).trans rfl; have hcz9_1 : w8.cell? ⟨gb110, 1, none⟩ = some (.int .i64 a0_1) := (blk_cell BK110.out 1).trans rfl; have hcz9_2 : w8.cell? ⟨gb110, 2, none⟩ = some (.int .i64 a0_2) := (blk_cell BK110.out 2).trans rfl; have hcz9_3 : w8.cell? ⟨gb110, 3, none⟩ = some (.string a0_3) := (blk_cell BK110.out 3).trans rfl; have hcz9_4 : w8.cell? ⟨gb110, 4, none⟩ = some (.slice A0_4 l0_4.length c0_4) := (blk_cell BK110.out 4).trans rfl; have hfz9_0 := blk_frozen BK110.out 0; have hfz9_1 := blk_frozen BK110.out 1; have hfz9_2 := blk_frozen BK110.out 2; have hfz9_3 := blk_frozen BK110.out 3; have hfz9_4 := blk_frozen BK110.out 4))
      go_ret
      exact ⟨by first | rfl | (simp [errW_none, errW_some] <;> rfl) | (simp [*, errW_none, errW_some] <;> rfl), by repeat (first | (with_reducible first | exact HB.out | apply below_alloc | apply pw_below_drewN | apply below_drew1 | refine below_set ?_ GE110.out) | exact HB.out)⟩
end Go.Proofs.YtaaejhodlindeaaGreatDoor.Y
end
section
namespace Go.Proofs.YtaaejhodlindeaaGreatDoor.Y
open Go.RowKit Go.Proofs.YtaaejhodlindeaaGreatDoorW.PrintWords Go.Proofs.YtaaejhodlindeaaGreatDoorW.PrintLast Go.Proofs.YtaaejhodlindeaaGreatDoorW.PrintMore
attribute [local go_sem] max2_int min2_int max_two min_two max_three min_three max_four min_four   -- for this text's walks alone
set_option linter.unusedVariables false
set_option linter.unusedSimpArgs false
set_option maxHeartbeats 8000000 in
set_option maxRecDepth 100000 in
theorem laws_zzFits3.calls (k : Nat) (A0 : Option Addr) (c0 : Nat) (l0 : List (S42)) (r : Bool) (w : World) (hr0 : Kd.C k42 w A0 l0.length l0) (hc0 : l0.length ≤ c0) (h : laws_zzFits3.f k l0 = some r) :
    Calls Tryz.prog 19 #[.slice A0 l0.length c0] w fun e w' => e = .returned (.bool r) ∧ Below w.heap.size w w' := by
  have hu42 := Tryz.underlying42
  have HR0 := Aside0.mk hr0
  have HC0 := Aside0.mk hc0
  clear hr0 hc0
  have HB := Aside0.mk (Below.refl w.heap.size w)
  have H : (if (l0.length : Int) > 2147483647 then (some false) else (laws_zzFits3.l0 k l0 (l0.length : Int) 0)) = some r := h
  clear h
  by_cases c2 : (l0.length : Int) > 2147483647
  · rw [if_pos c2] at H
    have c2b0 : decide (2147483647 < (l0.length : Int)) = true := decide_eq_true c2
    have c2b1 : decide (2147483647 < l0.length) = true := decide_eq_true (by omega)
    clear c2
    obtain rfl := Option.some.inj H
    go_enter Tryz.func19, Tryz.ntmps19
    go_wp2
    go_ret
    exact ⟨by first | rfl | (simp [errW_none, errW_some] <;> rfl) | (simp [*, errW_none, errW_some] <;> rfl), by repeat (first | (with_reducible first | exact HB.out | apply below_alloc | apply pw_below_drewN | apply below_drew1) | exact HB.out)⟩
  · rw [if_neg c2] at H
    have c2b0 : decide (2147483647 < (l0.length : Int)) = false := decide_eq_false c2
    have c2b1 : decide (2147483647 < l0.length) = false := decide_eq_false (by omega)
    clear c2
    have H' := Aside0.mk H
    clear H
    go_enter Tryz.func19, Tryz.ntmps19
    go_wp2
    go_loopg [10] k (fun kq v10 w' => ∃ (x10_1 : Int), v10 = .int .i64 x10_1 ∧ Aside0 (laws_zzFits3.l0 kq l0 (l0.length : Int) x10_1 = some r) ∧ Aside0 (kq ≤ k) ∧ Aside0 (Below w.heap.size w w'))
    case atStart => exact ⟨(0), (by first | rfl | (simp; done) | (simp [*]; done)), H', ⟨Nat.le_refl _⟩, ⟨by repeat (first | (with_reducible first | exact HB.out | apply below_alloc | apply pw_below_drewN | apply below_drew1) | exact HB.out)⟩⟩
    case round =>
      clear H'
      try clear c1
      try clear c2
      try clear c2b0
      try clear c2b1
      try clear p2
      obtain ⟨x10_1, rfl, HA, HK1, HB⟩ := hrel
      cases gk with
      | zero => exact absurd HA.out (by simp [laws_zzFits3.l0])
      | succ k1 =>
        have H := HA.out
        clear HA
        simp only [laws_zzFits3.l0] at H
        by_cases c3 : x10_1 < (l0.length : Int)
        · rw [if_pos c3] at H
          have c3b0 : decide (x10_1 < (l0.length : Int)) = true := decide_eq_true c3
          clear c3
          by_cases c4 : 0 ≤ x10_1
          · rw [if_pos c4] at H
            have c4b0 : decide (0 ≤ x10_1) = true := decide_eq_true c4
            clear c4
            by_cases c5 : x10_1 < (l0.length : Int)
            · rw [if_pos c5] at H
              have c5b0 : decide (x10_1 < (l0.length : Int)) = true := decide_eq_true c5
              clear c5
              replace H := Option.bind_eq_some_iff.mp H
              obtain ⟨t113, A60, H⟩ := H
              replace H : (if t113 = true then (laws_zzFits3.l0 k1 l0 (l0.length : Int) (wrap64 (x10_1 + 1))) else (some false)) = some r := H
              have A6 := Aside0.mk A60
              clear A60
              by_cases c7 : t113 = true
              · subst c7
                have H1 : (laws_zzFits3.l0 k1 l0 (l0.length : Int) (wrap64 (x10_1 + 1))) = some r := by rw [if_pos rfl] at H; exact H
                clear H
                have H := H1
                clear H1
                have H' := Aside0.mk H
                clear H
                have p111 : 0 ≤ (x10_1 : Int) := of_decide_eq_true (by first | (with_reducible assumption) | assumption)
                have q111 : x10_1 < (l0.length : Int) := of_decide_eq_true (by first | (with_reducible assumption) | assumption)
                obtain ⟨ad111, A111_4, c111_4, e111, hx111_0, hx111_1, hx111_2, hx111_3, hx111_4, hl111_4, hi111_4⟩ := at_T42 HR0.out x10_1 p111 q111
                cases e111
                replace hx111_0 := (HB.out.cell (World.block_lt_of_cell? w _ hx111_0)).trans hx111_0
                replace hx111_1 := (HB.out.cell (World.block_lt_of_cell? w _ hx111_1)).trans hx111_1
                replace hx111_2 := (HB.out.cell (World.block_lt_of_cell? w _ hx111_2)).trans hx111_2
                replace hx111_3 := (HB.out.cell (World.block_lt_of_cell? w _ hx111_3)).trans hx111_3
                replace hx111_4 := (HB.out.cell (World.block_lt_of_cell? w _ hx111_4)).trans hx111_4
                have HR111_4 := Aside0.mk hi111_4
                have HC111_4 := Aside0.mk hl111_4
                clear hi111_4 hl111_4
                replace p111 := eq_true p111
                replace q111 := eq_true q111
                go_wp2_with (first | ((with_reducible refine gate_dst (N := 4) rfl ?_); refine box_event ?hg (N := 4) ?hd (cs := #[.int .i64 0, .int .i64 0, .int .i64 0, .string (⟨#[]⟩ : ByteArray), .slice none 0 0]) (t := 42) ?hr ?_; (case hd => rfl); (case hg => rfl); (case hr => first | (go_simp; done) | (go_simp; rfl)); intro gb112 hg w8 hbox hb; have n0_ := Aside0.mk (below_step (by repeat (first | (with_reducible first | exact HB.out | apply below_alloc | apply pw_below_drewN | apply below_drew1) | exact HB.out)) hb); have n1_ := Aside0.mk (hbox); have n2_ := Aside0.mk ((by rw [hg]; exact (below_size (by repeat (first | (with_reducible first | exact HB.out | apply below_alloc | apply pw_below_drewN | apply below_drew1) | exact HB.out))) : w.heap.size ≤ gb112)); have n3_ := Aside0.mk ((by rw [hg]; exact (below_size (by repeat (first | (with_reducible first | exact HB.out | apply below_alloc | apply pw_below_drewN | apply below_drew1) | exact HB.out))) : w.heap.size ≤ gb112)); clear HB; have HB := n0_; have BK112 := n1_; have GW112 := n2_; have GE112 := n3_; clear n0_ n1_ n2_ n3_; clear hb hbox hg; have hcz9_0 : w8.cell? ⟨gb112, 0, none⟩ = some (.int .i64 0) := (blk_cell BK112.out 0).trans rfl; have hcz9_1 : w8.cell? ⟨gb112, 1, none⟩ = some (.int .i64 0) := (blk_cell BK112.out 1).trans rfl; have hcz9_2 : w8.cell? ⟨gb112, 2, none⟩ = some (.int .i64 0) := (blk_cell BK112.out 2).trans rfl; have hcz9_3 : w8.cell? ⟨gb112, 3, none⟩ = some (.string (⟨#[]⟩ : ByteArray)) := (blk_cell BK112.out 3).trans rfl; have hcz9_4 : w8.cell? ⟨gb112, 4, none⟩ = some (.slice none 0 0) := (blk_cell BK112.out 4).trans rfl; have hfz9_0 := blk_frozen BK112.out 0; have hfz9_1 := blk_frozen BK112.out 1; have hfz9_2 := blk_frozen BK112.out 2; have hfz9_3 := blk_frozen BK112.out 3; have hfz9_4 := blk_frozen BK112.out 4) | ((with_reducible refine gate_callee (f := 82) rfl ?_); refine goesL_ (some 15) rfl rfl Tryz.func82 (by kernel_rfl) rfl #[.agg #[.int .i64 ((rd_T42 l0 x10_1).f0), .int .i64 ((rd_T42 l0 x10_1).f1), .int .i64 ((rd_T42 l0 x10_1).f2), .string ((rd_T42 l0 x10_1).f3), .slice A111_4 ((rd_T42 l0 x10_1).f4).length c111_4]] rfl (by (try simp only [List.map_toArray, List.map_cons, List.map_nil]); first | done | rfl | (simp only [List.length_drop, List.length_take]; rfl)) ?_; (with_reducible refine (laws_zzFits4.calls ((rd_T42 l0 x10_1).f0) ((rd_T42 l0 x10_1).f1) ((rd_T42 l0 x10_1).f2) ((rd_T42 l0 x10_1).f3) _ _ ((rd_T42 l0 x10_1).f4) true _ ?side1 ?side2 A6.out).mono ?_); (case side1 => exact Kd.C_below HR111_4.out (by repeat (first | (with_reducible first | exact HB.out | apply below_alloc | apply pw_below_drewN | apply below_drew1 | refine below_set ?_ GE112.out) | exact HB.out))); (case side2 => exact HC111_4.out); rintro e w10 ⟨rfl, hb⟩; refine ⟨_, rfl, ?_⟩; have n0_ := Aside0.mk (blk_below (g := gb112) (o := .cells #[.int .i64 ((rd_T42 l0 x10_1).f0), .int .i64 ((rd_T42 l0 x10_1).f1), .int .i64 ((rd_T42 l0 x10_1).f2), .string ((rd_T42 l0 x10_1).f3), .slice A111_4 ((rd_T42 l0 x10_1).f4).length c111_4] 42 (0, 0)) (by (with_reducible repeat (first | refine blk_drewN ?_ _ | refine blk_drew ?_ | refine blk_alloc ?_ _)); refine blk_put (cs := #[.int .i64 ((rd_T42 l0 x10_1).f0), .int .i64 ((rd_T42 l0 x10_1).f1), .int .i64 ((rd_T42 l0 x10_1).f2), .string ((rd_T42 l0 x10_1).f3), .slice none 0 0]) ?_ 4 _ rfl; (with_reducible repeat (first | refine blk_drewN ?_ _ | refine blk_drew ?_ | refine blk_alloc ?_ _)); refine blk_put (cs := #[.int .i64 ((rd_T42 l0 x10_1).f0), .int .i64 ((rd_T42 l0 x10_1).f1), .int .i64 ((rd_T42 l0 x10_1).f2), .string (⟨#[]⟩ : ByteArray), .slice none 0 0]) ?_ 3 _ rfl; (with_reducible repeat (first | refine blk_drewN ?_ _ | refine blk_drew ?_ | refine blk_alloc ?_ _)); refine blk_put (cs := #[.int .i64 ((rd_T42 l0 x10_1).f0), .int .i64 ((rd_T42 l0 x10_1).f1), .int .i64 0, .string (⟨#[]⟩ : ByteArray), .slice none 0 0]) ?_ 2 _ rfl; (with_reducible repeat (first | refine blk_drewN ?_ _ | refine blk_drew ?_ | refine blk_alloc ?_ _)); refine blk_put (cs := #[.int .i64 ((rd_T42 l0 x10_1).f0), .int .i64 0, .int .i64 0, .string (⟨#[]⟩ : ByteArray), .slice none 0 0]) ?_ 1 _ rfl; (with_reducible repeat (first | refine blk_drewN ?_ _ | refine blk_drew ?_ | refine blk_alloc ?_ _)); refine blk_put (cs := #[.int .i64 0, .int .i64 0, .int .i64 0, .string (⟨#[]⟩ : ByteArray), .slice none 0 0]) ?_ 0 _ rfl; (with_reducible repeat (first | refine blk_drewN ?_ _ | refine blk_drew ?_ | refine blk_alloc ?_ _)); exact BK112.out) hb); have n1_ := Aside0.mk (below_step (by repeat (first | (with_reducible first | exact HB.out | apply below_alloc | apply pw_below_drewN | apply below_drew1 | refine below_set ?_ GE112.out) | exact HB.out)) hb); clear BK112; clear HB; have BK112 := n0_; have HB := n1_; clear n0_ n1_; (try clear hb); (try clear hb2); (try clear hk); (try clear hi)))
                go_roundg k1
                case measure => have := HK1.out; omega
                case rel => exact ⟨(wrap64 (x10_1 + 1)), (by first | rfl | (simp; done) | (simp [*]; done)), H', ⟨by have := HK1.out; omega⟩, ⟨by repeat (first | (with_reducible first | exact HB.out | apply below_alloc | apply pw_below_drewN | apply below_drew1 | refine below_set ?_ GE112.out) | exact HB.out)⟩⟩
              · replace c7 := Bool.eq_false_iff.mpr c7
                subst c7
                have H1 : (some false) = some r := by rw [if_neg (show ¬ (false = true) by decide)] at H; exact H
                clear H
                have H := H1
                clear H1
                obtain rfl := Option.some.inj H
                have p111 : 0 ≤ (x10_1 : Int) := of_decide_eq_true (by first | (with_reducible assumption) | assumption)
                have q111 : x10_1 < (l0.length : Int) := of_decide_eq_true (by first | (with_reducible assumption) | assumption)
                obtain ⟨ad111, A111_4, c111_4, e111, hx111_0, hx111_1, hx111_2, hx111_3, hx111_4, hl111_4, hi111_4⟩ := at_T42 HR0.out x10_1 p111 q111
                cases e111
                replace hx111_0 := (HB.out.cell (World.block_lt_of_cell? w _ hx111_0)).trans hx111_0
                replace hx111_1 := (HB.out.cell (World.block_lt_of_cell? w _ hx111_1)).trans hx111_1
                replace hx111_2 := (HB.out.cell (World.block_lt_of_cell? w _ hx111_2)).trans hx111_2
                replace hx111_3 := (HB.out.cell (World.block_lt_of_cell? w _ hx111_3)).trans hx111_3
                replace hx111_4 := (HB.out.cell (World.block_lt_of_cell? w _ hx111_4)).trans hx111_4
                have HR111_4 := Aside0.mk hi111_4
                have HC111_4 := Aside0.mk hl111_4
                clear hi111_4 hl111_4
                replace p111 := eq_true p111
                replace q111 := eq_true q111
                go_wp2_with (first | ((with_reducible refine gate_dst (N := 4) rfl ?_); refine box_event ?hg (N := 4) ?hd (cs := #[.int .i64 0, .int .i64 0, .int .i64 0, .string (⟨#[]⟩ : ByteArray), .slice none 0 0]) (t := 42) ?hr ?_; (case hd => rfl); (case hg => rfl); (case hr => first | (go_simp; done) | (go_simp; rfl)); intro gb112 hg w11 hbox hb; have n0_ := Aside0.mk (below_step (by repeat (first | (with_reducible first | exact HB.out | apply below_alloc | apply pw_below_drewN | apply below_drew1) | exact HB.out)) hb); have n1_ := Aside0.mk (hbox); have n2_ := Aside0.mk ((by rw [hg]; exact (below_size (by repeat (first | (with_reducible first | exact HB.out | apply below_alloc | apply pw_below_drewN | apply below_drew1) | exact HB.out))) : w.heap.size ≤ gb112)); have n3_ := Aside0.mk ((by rw [hg]; exact (below_size (by repeat (first | (with_reducible first | exact HB.out | apply below_alloc | apply pw_below_drewN | apply below_drew1) | exact HB.out))) : w.heap.size ≤ gb112)); clear HB; have HB := n0_; have BK112 := n1_; have GW112 := n2_; have GE112 := n3_; clear n0_ n1_ n2_ n3_; clear hb hbox hg; have hcz12_0 : w11.cell? ⟨gb112, 0, none⟩ = some (.int .i64 0) := (blk_cell BK112.out 0).trans rfl; have hcz12_1 : w11.cell? ⟨gb112, 1, none⟩ = some (.int .i64 0) := (blk_cell BK112.out 1).trans rfl; have hcz12_2 : w11.cell? ⟨gb112, 2, none⟩ = some (.int .i64 0) := (blk_cell BK112.out 2).trans rfl; have hcz12_3 : w11.cell? ⟨gb112, 3, none⟩ = some (.string (⟨#[]⟩ : ByteArray)) := (blk_cell BK112.out 3).trans rfl; have hcz12_4 : w11.cell? ⟨gb112, 4, none⟩ = some (.slice none 0 0) := (blk_cell BK112.out 4).trans rfl; have hfz12_0 := blk_frozen BK112.out 0; have hfz12_1 := blk_frozen BK112.out 1; have hfz12_2 := blk_frozen BK112.out 2; have hfz12_3 := blk_frozen BK112.out 3; have hfz12_4 := blk_frozen BK112.out 4) | ((with_reducible refine gate_callee (f := 82) rfl ?_); refine goesL_ (some 15) rfl rfl Tryz.func82 (by kernel_rfl) rfl #[.agg #[.int .i64 ((rd_T42 l0 x10_1).f0), .int .i64 ((rd_T42 l0 x10_1).f1), .int .i64 ((rd_T42 l0 x10_1).f2), .string ((rd_T42 l0 x10_1).f3), .slice A111_4 ((rd_T42 l0 x10_1).f4).length c111_4]] rfl (by (try simp only [List.map_toArray, List.map_cons, List.map_nil]); first | done | rfl | (simp only [List.length_drop, List.length_take]; rfl)) ?_; (with_reducible refine (laws_zzFits4.calls ((rd_T42 l0 x10_1).f0) ((rd_T42 l0 x10_1).f1) ((rd_T42 l0 x10_1).f2) ((rd_T42 l0 x10_1).f3) _ _ ((rd_T42 l0 x10_1).f4) false _ ?side1 ?side2 A6.out).mono ?_); (case side1 => exact Kd.C_below HR111_4.out (by repeat (first | (with_reducible first | exact HB.out | apply below_alloc | apply pw_below_drewN | apply below_drew1 | refine below_set ?_ GE112.out) | exact HB.out))); (case side2 => exact HC111_4.out); rintro e w13 ⟨rfl, hb⟩; refine ⟨_, rfl, ?_⟩; have n0_ := Aside0.mk (blk_below (g := gb112) (o := .cells #[.int .i64 ((rd_T42 l0 x10_1).f0), .int .i64 ((rd_T42 l0 x10_1).f1), .int .i64 ((rd_T42 l0 x10_1).f2), .string ((rd_T42 l0 x10_1).f3), .slice A111_4 ((rd_T42 l0 x10_1).f4).length c111_4] 42 (0, 0)) (by (with_reducible repeat (first | refine blk_drewN ?_ _ | refine blk_drew ?_ | refine blk_alloc ?_ _)); refine blk_put (cs := #[.int .i64 ((rd_T42 l0 x10_1).f0), .int .i64 ((rd_T42 l0 x10_1).f1), .int .i64 ((rd_T42 l0 x10_1).f2), .string ((rd_T42 l0 x10_1).f3), .slice none 0 0]) ?_ 4 _ rfl; (with_reducible repeat (first | refine blk_drewN ?_ _ | refine blk_drew ?_ | refine blk_alloc ?_ _)); refine blk_put (cs := #[.int .i64 ((rd_T42 l0 x10_1).f0), .int .i64 ((rd_T42 l0 x10_1).f1), .int .i64 ((rd_T42 l0 x10_1).f2), .string (⟨#[]⟩ : ByteArray), .slice none 0 0]) ?_ 3 _ rfl; (with_reducible repeat (first | refine blk_drewN ?_ _ | refine blk_drew ?_ | refine blk_alloc ?_ _)); refine blk_put (cs := #[.int .i64 ((rd_T42 l0 x10_1).f0), .int .i64 ((rd_T42 l0 x10_1).f1), .int .i64 0, .string (⟨#[]⟩ : ByteArray), .slice none 0 0]) ?_ 2 _ rfl; (with_reducible repeat (first | refine blk_drewN ?_ _ | refine blk_drew ?_ | refine blk_alloc ?_ _)); refine blk_put (cs := #[.int .i64 ((rd_T42 l0 x10_1).f0), .int .i64 0, .int .i64 0, .string (⟨#[]⟩ : ByteArray), .slice none 0 0]) ?_ 1 _ rfl; (with_reducible repeat (first | refine blk_drewN ?_ _ | refine blk_drew ?_ | refine blk_alloc ?_ _)); refine blk_put (cs := #[.int .i64 0, .int .i64 0, .int .i64 0, .string (⟨#[]⟩ : ByteArray), .slice none 0 0]) ?_ 0 _ rfl; (with_reducible repeat (first | refine blk_drewN ?_ _ | refine blk_drew ?_ | refine blk_alloc ?_ _)); exact BK112.out) hb); have n1_ := Aside0.mk (below_step (by repeat (first | (with_reducible first | exact HB.out | apply below_alloc | apply pw_below_drewN | apply below_drew1 | refine below_set ?_ GE112.out) | exact HB.out)) hb); clear BK112; clear HB; have BK112 := n0_; have HB := n1_; clear n0_ n1_; (try clear hb); (try clear hb2); (try clear hk); (try clear hi)))
                go_ret
                exact ⟨by first | rfl | (simp [errW_none, errW_some] <;> rfl) | (simp [*, errW_none, errW_some] <;> rfl), by repeat (first | (with_reducible first | exact HB.out | apply below_alloc | apply pw_below_drewN | apply below_drew1 | refine below_set ?_ GE112.out) | exact HB.out)⟩
            · rw [if_neg c5] at H
              exact absurd H (by simp)
          · rw [if_neg c4] at H
            exact absurd H (by simp)
        · rw [if_neg c3] at H
          have c3b0 : decide (x10_1 < (l0.length : Int)) = false := decide_eq_false c3
          clear c3
          obtain rfl := Option.some.inj H
          go_wp2
          go_ret
          exact ⟨by first | rfl | (simp [errW_none, errW_some] <;> rfl) | (simp [*, errW_none, errW_some] <;> rfl), by repeat (first | (with_reducible first | exact HB.out | apply below_alloc | apply pw_below_drewN | apply below_drew1) | exact HB.out)⟩
end Go.Proofs.YtaaejhodlindeaaGreatDoor.Y
end
section
namespace Go.Proofs.YtaaejhodlindeaaGreatDoorW.PrintWords
open Go.ChangeShapes Go.WideShapes
end Go.Proofs.YtaaejhodlindeaaGreatDoorW.PrintWords
end
