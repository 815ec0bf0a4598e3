/- Texts of this claim, joined: Y6. Of each, what the claim uses. -/
import Derived.Test.YtjkpelaeelihhaaGreatDoorRRKad
import Derived.Test.YtjkpelaeelihhaaGreatDoorRRKbc
import Derived.Test.YtjkpelaeelihhaaGreatDoorRRKbd
import Derived.Test.YtjkpelaeelihhaaGreatDoorRRKbe
import Derived.Test.YtjkpelaeelihhaaGreatDoorRRKat
section
namespace Go.Proofs.YtjkpelaeelihhaaGreatDoorRR.Y
open Go.RowKit Go.Proofs.YtjkpelaeelihhaaGreatDoorRRW.PrintWords Go.Proofs.YtjkpelaeelihhaaGreatDoorRRW.PrintLast Go.Proofs.YtjkpelaeelihhaaGreatDoorRRW.PrintMore
attribute [local go_sem] max2_int min2_int max_two min_two max_three min_three max_four min_four   -- for this text's walks alone
set_option linter.unusedVariables false
set_option linter.unusedSimpArgs false
set_option maxHeartbeats 8000000 in
set_option maxRecDepth 100000 in
theorem spec_IsDrawOp.calls (k : Nat) (a0_0 : Int) (a0_1 : Int) (a0_2 : Int) (a0_3 : ByteArray) (A0_4 : Option Addr) (c0_4 : Nat) (l0_4 : List Int) (r : Bool) (w : World) (hr0_4 : Kd.C (Kd.int .i64) w A0_4 l0_4.length l0_4) (hc0_4 : l0_4.length ≤ c0_4) (h : spec_IsDrawOp.f k a0_0 a0_1 a0_2 a0_3 l0_4 = some r) :
    Calls Tryz.prog 21 #[.agg #[.int .i64 a0_0, .int .i64 a0_1, .int .i64 a0_2, .string a0_3, .slice A0_4 l0_4.length c0_4]] w fun e w' => e = .returned (.bool r) ∧ Below w.heap.size w w' := by
  have hu45 := Tryz.underlying45
  have HR0_4 := Aside0.mk hr0_4
  have HC0_4 := Aside0.mk hc0_4
  clear hr0_4 hc0_4
  have HB := Aside0.mk (Below.refl w.heap.size w)
  have H : (if a0_3.toList = ([] : List UInt8) then (spec_IsDrawOp.j0 k ((l0_4.length : Int) == 0) a0_0 a0_1 a0_2 a0_3 l0_4) else (spec_IsDrawOp.j0 k false a0_0 a0_1 a0_2 a0_3 l0_4)) = some r := h
  clear h
  have HC2 := Aside0.mk H
  clear H
  go_enter Tryz.func21, Tryz.ntmps21
  go_upto_region 1 with (first | ((with_reducible refine gate_dst (N := 1) rfl ?_); (try (refine gate_guard (by rfl) ?_; dsimp only)); refine box_event ?hg (N := 1) ?hd (cs := #[.int .i64 a0_0, .int .i64 a0_1, .int .i64 a0_2, .string a0_3, .slice A0_4 l0_4.length c0_4]) (t := 45) ?hr ?_; (case hd => rfl); (case hg => rfl); (case hr => first | (go_simp; done) | (go_simp; rfl)); intro gb106 hg w3 hbox hb; have n0_ := Aside0.mk (below_step (by repeat (first | (with_reducible first | exact HB.out | apply below_alloc | apply pw_below_drewN | apply below_drew1) | exact HB.out)) hb); have n1_ := Aside0.mk (hbox); have n2_ := Aside0.mk ((by rw [hg]; exact (below_size (by repeat (first | (with_reducible first | exact HB.out | apply below_alloc | apply pw_below_drewN | apply below_drew1) | exact HB.out))) : w.heap.size ≤ gb106)); have n3_ := Aside0.mk ((by rw [hg]; exact (below_size (by repeat (first | (with_reducible first | exact HB.out | apply below_alloc | apply pw_below_drewN | apply below_drew1) | exact HB.out))) : w.heap.size ≤ gb106)); clear HB; have HB := n0_; have BK106 := n1_; have GW106 := n2_; have GE106 := n3_; clear n0_ n1_ n2_ n3_; clear hb hbox hg))
  (try simp only [Act.put, List.setIfInBounds_toArray, List.set_cons_zero, List.set_cons_succ])
  go_cut [3] (fun v3 wc => ∃ (kq : Nat) (x3_1 : Bool), v3 = .bool x3_1 ∧ Aside0 (spec_IsDrawOp.j0 kq x3_1 a0_0 a0_1 a0_2 a0_3 l0_4 = some r) ∧ Aside0 (kq ≤ k) ∧ Aside0 (wc.heap[gb106]? = some (.cells #[.int .i64 a0_0, .int .i64 a0_1, .int .i64 a0_2, .string a0_3, (.slice A0_4 l0_4.length c0_4)] 45 (0, 0))) ∧ Aside0 (Below w.heap.size w wc))
  case first =>
    have H := HC2.out
    clear HC2
    by_cases c4 : a0_3.toList = ([] : List UInt8)
    · rw [if_pos c4] at H
      have c4b0 : (a0_3.toList == ([] : List UInt8)) = true := beq_iff_eq.mpr c4
      have c4b1 : (a0_3.toList != ([] : List UInt8)) = false := bne_eq_false_iff_eq.mpr c4
      clear c4
      (first | rw [c4b0] | (simp only [i64_w, i32_w]; rw [c4b0]) | skip)
      have H' := Aside0.mk H
      clear H
      have hcz5_0 : w3.cell? ⟨gb106, 0, none⟩ = some (.int .i64 a0_0) := (blk_cell BK106.out 0).trans rfl
      have hcz5_1 : w3.cell? ⟨gb106, 1, none⟩ = some (.int .i64 a0_1) := (blk_cell BK106.out 1).trans rfl
      have hcz5_2 : w3.cell? ⟨gb106, 2, none⟩ = some (.int .i64 a0_2) := (blk_cell BK106.out 2).trans rfl
      have hcz5_3 : w3.cell? ⟨gb106, 3, none⟩ = some (.string a0_3) := (blk_cell BK106.out 3).trans rfl
      have hcz5_4 : w3.cell? ⟨gb106, 4, none⟩ = some (.slice A0_4 l0_4.length c0_4) := (blk_cell BK106.out 4).trans rfl
      have hfz5_0 := blk_frozen BK106.out 0
      have hfz5_1 := blk_frozen BK106.out 1
      have hfz5_2 := blk_frozen BK106.out 2
      have hfz5_3 := blk_frozen BK106.out 3
      have hfz5_4 := blk_frozen BK106.out 4
      go_wp2
      go_meet
      case rel => exact ⟨_, (((l0_4.length : Int) == 0)), (by first | rfl | (simp; done) | (simp [*]; done)), H', ⟨by first | omega | exact Nat.le_refl _⟩, ⟨by (with_reducible repeat (first | refine blk_drewN ?_ _ | refine blk_drew ?_ | refine blk_alloc ?_ _)); exact BK106.out⟩, ⟨by repeat (first | (with_reducible first | exact HB.out | apply below_alloc | apply pw_below_drewN | apply below_drew1 | refine below_set ?_ GE106.out) | exact HB.out)⟩⟩
    · rw [if_neg c4] at H
      have c4b0 : (a0_3.toList == ([] : List UInt8)) = false := beq_eq_false_iff_ne.mpr c4
      have c4b1 : (a0_3.toList != ([] : List UInt8)) = true := bne_iff_ne.mpr c4
      (first | rw [c4b0] | (simp only [i64_w, i32_w]; rw [c4b0]) | skip)
      have H' := Aside0.mk H
      clear H
      have hcz6_0 : w3.cell? ⟨gb106, 0, none⟩ = some (.int .i64 a0_0) := (blk_cell BK106.out 0).trans rfl
      have hcz6_1 : w3.cell? ⟨gb106, 1, none⟩ = some (.int .i64 a0_1) := (blk_cell BK106.out 1).trans rfl
      have hcz6_2 : w3.cell? ⟨gb106, 2, none⟩ = some (.int .i64 a0_2) := (blk_cell BK106.out 2).trans rfl
      have hcz6_3 : w3.cell? ⟨gb106, 3, none⟩ = some (.string a0_3) := (blk_cell BK106.out 3).trans rfl
      have hcz6_4 : w3.cell? ⟨gb106, 4, none⟩ = some (.slice A0_4 l0_4.length c0_4) := (blk_cell BK106.out 4).trans rfl
      have hfz6_0 := blk_frozen BK106.out 0
      have hfz6_1 := blk_frozen BK106.out 1
      have hfz6_2 := blk_frozen BK106.out 2
      have hfz6_3 := blk_frozen BK106.out 3
      have hfz6_4 := blk_frozen BK106.out 4
      go_wp2
      go_meet
      case rel => exact ⟨_, (false), (by first | rfl | (simp; done) | (simp [*]; done)), H', ⟨by first | omega | exact Nat.le_refl _⟩, ⟨by (with_reducible repeat (first | refine blk_drewN ?_ _ | refine blk_drew ?_ | refine blk_alloc ?_ _)); exact BK106.out⟩, ⟨by repeat (first | (with_reducible first | exact HB.out | apply below_alloc | apply pw_below_drewN | apply below_drew1 | refine below_set ?_ GE106.out) | exact HB.out)⟩⟩
  case rest => as_aux_lemma =>
    clear HC2
    try clear c2
    try clear p2
    try clear c4
    try clear c4b0
    try clear c4b1
    try clear hcz5_0
    try clear hcz5_1
    try clear hcz5_2
    try clear hcz5_3
    try clear hcz5_4
    try clear hcz6_0
    try clear hcz6_1
    try clear hcz6_2
    try clear hcz6_3
    try clear hcz6_4
    try clear hfz5_0
    try clear hfz5_1
    try clear hfz5_2
    try clear hfz5_3
    try clear hfz5_4
    try clear hfz6_0
    try clear hfz6_1
    try clear hfz6_2
    try clear hfz6_3
    try clear hfz6_4
    obtain ⟨kq, x3_1, rfl, HA, HJ1, BK106, HB⟩ := hcut
    cases kq with
    | zero => exact absurd HA.out (by simp [spec_IsDrawOp.j0])
    | succ kj1 =>
      have H := HA.out
      clear HA
      simp only [spec_IsDrawOp.j0] at H
      have HC7 := Aside0.mk H
      clear H
      go_upto_region 3 with (fail)
      go_cut [22] (fun v22 wc => ∃ (kq : Nat) (x22_6 : Bool), v22 = .bool x22_6 ∧ Aside0 (spec_IsDrawOp.j1 kq x3_1 1 99 x22_6 a0_0 a0_1 a0_2 a0_3 l0_4 = some r) ∧ Aside0 (kq ≤ kj1) ∧ Aside0 (wc.heap[gb106]? = some (.cells #[.int .i64 a0_0, .int .i64 a0_1, .int .i64 a0_2, .string a0_3, (.slice A0_4 l0_4.length c0_4)] 45 (0, 0))) ∧ Aside0 (Below w.heap.size w wc))
      case first =>
        have H := HC7.out
        clear HC7
        by_cases c8 : a0_0 = 10
        · rw [if_pos c8] at H
          have c8b0 : (a0_0 == 10) = true := beq_iff_eq.mpr c8
          have c8b1 : (a0_0 != 10) = false := bne_eq_false_iff_eq.mpr c8
          clear c8
          (first | rw [c8b0] | (simp only [i64_w, i32_w]; rw [c8b0]) | skip)
          have H' := Aside0.mk H
          clear H
          have hcz9_0 : wc.cell? ⟨gb106, 0, none⟩ = some (.int .i64 a0_0) := (blk_cell BK106.out 0).trans rfl
          have hcz9_1 : wc.cell? ⟨gb106, 1, none⟩ = some (.int .i64 a0_1) := (blk_cell BK106.out 1).trans rfl
          have hcz9_2 : wc.cell? ⟨gb106, 2, none⟩ = some (.int .i64 a0_2) := (blk_cell BK106.out 2).trans rfl
          have hcz9_3 : wc.cell? ⟨gb106, 3, none⟩ = some (.string a0_3) := (blk_cell BK106.out 3).trans rfl
          have hcz9_4 : wc.cell? ⟨gb106, 4, none⟩ = some (.slice A0_4 l0_4.length c0_4) := (blk_cell BK106.out 4).trans rfl
          have hfz9_0 := blk_frozen BK106.out 0
          have hfz9_1 := blk_frozen BK106.out 1
          have hfz9_2 := blk_frozen BK106.out 2
          have hfz9_3 := blk_frozen BK106.out 3
          have hfz9_4 := blk_frozen BK106.out 4
          go_wp2
          go_meet
          case rel => exact ⟨_, (true), (by first | rfl | (simp; done) | (simp [*]; done)), H', ⟨by have := HJ1.out; first | omega | exact Nat.le_refl _⟩, ⟨by (with_reducible repeat (first | refine blk_drewN ?_ _ | refine blk_drew ?_ | refine blk_alloc ?_ _)); exact BK106.out⟩, ⟨by repeat (first | (with_reducible first | exact HB.out | apply below_alloc | apply pw_below_drewN | apply below_drew1 | refine below_set ?_ GE106.out) | exact HB.out)⟩⟩
        · rw [if_neg c8] at H
          have c8b0 : (a0_0 == 10) = false := beq_eq_false_iff_ne.mpr c8
          have c8b1 : (a0_0 != 10) = true := bne_iff_ne.mpr c8
          (first | rw [c8b0] | (simp only [i64_w, i32_w]; rw [c8b0]) | skip)
          have H' := Aside0.mk H
          clear H
          have hcz10_0 : wc.cell? ⟨gb106, 0, none⟩ = some (.int .i64 a0_0) := (blk_cell BK106.out 0).trans rfl
          have hcz10_1 : wc.cell? ⟨gb106, 1, none⟩ = some (.int .i64 a0_1) := (blk_cell BK106.out 1).trans rfl
          have hcz10_2 : wc.cell? ⟨gb106, 2, none⟩ = some (.int .i64 a0_2) := (blk_cell BK106.out 2).trans rfl
          have hcz10_3 : wc.cell? ⟨gb106, 3, none⟩ = some (.string a0_3) := (blk_cell BK106.out 3).trans rfl
          have hcz10_4 : wc.cell? ⟨gb106, 4, none⟩ = some (.slice A0_4 l0_4.length c0_4) := (blk_cell BK106.out 4).trans rfl
          have hfz10_0 := blk_frozen BK106.out 0
          have hfz10_1 := blk_frozen BK106.out 1
          have hfz10_2 := blk_frozen BK106.out 2
          have hfz10_3 := blk_frozen BK106.out 3
          have hfz10_4 := blk_frozen BK106.out 4
          go_wp2
          go_meet
          case rel => exact ⟨_, ((a0_0 == 11)), (by first | rfl | (simp; done) | (simp [*]; done)), H', ⟨by have := HJ1.out; first | omega | exact Nat.le_refl _⟩, ⟨by (with_reducible repeat (first | refine blk_drewN ?_ _ | refine blk_drew ?_ | refine blk_alloc ?_ _)); exact BK106.out⟩, ⟨by repeat (first | (with_reducible first | exact HB.out | apply below_alloc | apply pw_below_drewN | apply below_drew1 | refine below_set ?_ GE106.out) | exact HB.out)⟩⟩
      case rest => as_aux_lemma =>
        clear HC7
        try clear c2
        try clear p2
        try clear c4
        try clear c4b0
        try clear c4b1
        try clear c8
        try clear c8b0
        try clear c8b1
        try clear hcz10_0
        try clear hcz10_1
        try clear hcz10_2
        try clear hcz10_3
        try clear hcz10_4
        try clear hcz5_0
        try clear hcz5_1
        try clear hcz5_2
        try clear hcz5_3
        try clear hcz5_4
        try clear hcz6_0
        try clear hcz6_1
        try clear hcz6_2
        try clear hcz6_3
        try clear hcz6_4
        try clear hcz9_0
        try clear hcz9_1
        try clear hcz9_2
        try clear hcz9_3
        try clear hcz9_4
        try clear hfz10_0
        try clear hfz10_1
        try clear hfz10_2
        try clear hfz10_3
        try clear hfz10_4
        try clear hfz5_0
        try clear hfz5_1
        try clear hfz5_2
        try clear hfz5_3
        try clear hfz5_4
        try clear hfz6_0
        try clear hfz6_1
        try clear hfz6_2
        try clear hfz6_3
        try clear hfz6_4
        try clear hfz9_0
        try clear hfz9_1
        try clear hfz9_2
        try clear hfz9_3
        try clear hfz9_4
        try clear p2
        obtain ⟨kq, x22_6, rfl, HA, HJ6, BK106, HB⟩ := hcut
        cases kq with
        | zero => exact absurd HA.out (by simp [spec_IsDrawOp.j1])
        | succ kj6 =>
          have H := HA.out
          clear HA
          simp only [spec_IsDrawOp.j1] at H
          have HC11 := Aside0.mk H
          clear H
          go_upto_if 22 with (fail)
          go_cut [4, 5] (fun v4 v5 wc => ∃ (kq : Nat) (x4_10 : Int) (x5_10 : Int), v4 = .int .i64 x4_10 ∧ v5 = .int .i64 x5_10 ∧ Aside0 (spec_IsDrawOp.j2 kq x3_1 x4_10 x5_10 a0_0 a0_1 a0_2 a0_3 l0_4 = some r) ∧ Aside0 (kq ≤ kj6) ∧ Aside0 (wc.heap[gb106]? = some (.cells #[.int .i64 a0_0, .int .i64 a0_1, .int .i64 a0_2, .string a0_3, (.slice A0_4 l0_4.length c0_4)] 45 (0, 0))) ∧ Aside0 (Below w.heap.size w wc))
          case first =>
            have H := HC11.out
            clear HC11
            by_cases c12 : x22_6 = true
            · subst c12
              have H1 : (spec_IsDrawOp.j2 kj6 x3_1 0 2 a0_0 a0_1 a0_2 a0_3 l0_4) = some r := by rw [if_pos rfl] at H; exact H
              clear H
              have H := H1
              clear H1
              have H' := Aside0.mk H
              clear H
              go_wp2
              go_meet
              case rel => exact ⟨_, (0), (2), (by first | rfl | (simp; done) | (simp [*]; done)), (by first | rfl | (simp; done) | (simp [*]; done)), H', ⟨by have := HJ1.out; have := HJ6.out; first | omega | exact Nat.le_refl _⟩, ⟨by (with_reducible repeat (first | refine blk_drewN ?_ _ | refine blk_drew ?_ | refine blk_alloc ?_ _)); exact BK106.out⟩, ⟨by repeat (first | (with_reducible first | exact HB.out | apply below_alloc | apply pw_below_drewN | apply below_drew1 | refine below_set ?_ GE106.out) | exact HB.out)⟩⟩
            · replace c12 := Bool.eq_false_iff.mpr c12
              subst c12
              have H1 : (spec_IsDrawOp.j2 kj6 x3_1 1 99 a0_0 a0_1 a0_2 a0_3 l0_4) = some r := by rw [if_neg (show ¬ (false = true) by decide)] at H; exact H
              clear H
              have H := H1
              clear H1
              have H' := Aside0.mk H
              clear H
              go_wp2
              go_meet
              case rel => exact ⟨_, (1), (99), (by first | rfl | (simp; done) | (simp [*]; done)), (by first | rfl | (simp; done) | (simp [*]; done)), H', ⟨by have := HJ1.out; have := HJ6.out; first | omega | exact Nat.le_refl _⟩, ⟨by (with_reducible repeat (first | refine blk_drewN ?_ _ | refine blk_drew ?_ | refine blk_alloc ?_ _)); exact BK106.out⟩, ⟨by repeat (first | (with_reducible first | exact HB.out | apply below_alloc | apply pw_below_drewN | apply below_drew1 | refine below_set ?_ GE106.out) | exact HB.out)⟩⟩
          case rest => as_aux_lemma =>
            clear HC11
            try clear c1
            try clear c2
            try clear p2
            try clear c4
            try clear c4b0
            try clear c4b1
            try clear c8
            try clear c8b0
            try clear c8b1
            try clear c12
            try clear hcz10_0
            try clear hcz10_1
            try clear hcz10_2
            try clear hcz10_3
            try clear hcz10_4
            try clear hcz5_0
            try clear hcz5_1
            try clear hcz5_2
            try clear hcz5_3
            try clear hcz5_4
            try clear hcz6_0
            try clear hcz6_1
            try clear hcz6_2
            try clear hcz6_3
            try clear hcz6_4
            try clear hcz9_0
            try clear hcz9_1
            try clear hcz9_2
            try clear hcz9_3
            try clear hcz9_4
            try clear hfz10_0
            try clear hfz10_1
            try clear hfz10_2
            try clear hfz10_3
            try clear hfz10_4
            try clear hfz5_0
            try clear hfz5_1
            try clear hfz5_2
            try clear hfz5_3
            try clear hfz5_4
            try clear hfz6_0
            try clear hfz6_1
            try clear hfz6_2
            try clear hfz6_3
            try clear hfz6_4
            try clear hfz9_0
            try clear hfz9_1
            try clear hfz9_2
            try clear hfz9_3
            try clear hfz9_4
            try clear p2
            obtain ⟨kq, x4_10, x5_10, rfl, rfl, HA, HJ10, BK106, HB⟩ := hcut
            cases kq with
            | zero => exact absurd HA.out (by simp [spec_IsDrawOp.j2])
            | succ kj10 =>
              have H := HA.out
              clear HA
              simp only [spec_IsDrawOp.j2] at H
              replace H := Option.bind_eq_some_iff.mp H
              obtain ⟨t107, A130, H⟩ := H
              replace H : (if t107 = true then (if x3_1 = true then (if a0_2 = 0 then (if a0_1 ≥ x4_10 then (some (decide (a0_1 ≤ x5_10))) else (some false)) else (some false)) else (some false)) else (if a0_0 = 40 then (spec_IsDrawOp.j3 kj10 x3_1 true a0_0 a0_1 a0_2 a0_3 l0_4) else (spec_IsDrawOp.j3 kj10 x3_1 (a0_0 == 41) a0_0 a0_1 a0_2 a0_3 l0_4))) = some r := H
              have A13 := Aside0.mk A130
              clear A130
              by_cases c14 : t107 = true
              · subst c14
                have H1 : (if x3_1 = true then (if a0_2 = 0 then (if a0_1 ≥ x4_10 then (some (decide (a0_1 ≤ x5_10))) else (some false)) else (some false)) else (some false)) = some r := by rw [if_pos rfl] at H; exact H
                clear H
                have H := H1
                clear H1
                by_cases c15 : x3_1 = true
                · subst c15
                  have H1 : (if a0_2 = 0 then (if a0_1 ≥ x4_10 then (some (decide (a0_1 ≤ x5_10))) else (some false)) else (some false)) = some r := by rw [if_pos rfl] at H; exact H
                  clear H
                  have H := H1
                  clear H1
                  by_cases c16 : a0_2 = 0
                  · rw [if_pos c16] at H
                    have c16b0 : (a0_2 == 0) = true := beq_iff_eq.mpr c16
                    have c16b1 : (a0_2 != 0) = false := bne_eq_false_iff_eq.mpr c16
                    clear c16
                    by_cases c17 : a0_1 ≥ x4_10
                    · rw [if_pos c17] at H
                      have c17b0 : decide (x4_10 ≤ a0_1) = true := decide_eq_true c17
                      clear c17
                      obtain rfl := Option.some.inj H
                      have hcz18_0 : wc.cell? ⟨gb106, 0, none⟩ = some (.int .i64 a0_0) := (blk_cell BK106.out 0).trans rfl
                      have hcz18_1 : wc.cell? ⟨gb106, 1, none⟩ = some (.int .i64 a0_1) := (blk_cell BK106.out 1).trans rfl
                      have hcz18_2 : wc.cell? ⟨gb106, 2, none⟩ = some (.int .i64 a0_2) := (blk_cell BK106.out 2).trans rfl
                      have hcz18_3 : wc.cell? ⟨gb106, 3, none⟩ = some (.string a0_3) := (blk_cell BK106.out 3).trans rfl
                      have hcz18_4 : wc.cell? ⟨gb106, 4, none⟩ = some (.slice A0_4 l0_4.length c0_4) := (blk_cell BK106.out 4).trans rfl
                      have hfz18_0 := blk_frozen BK106.out 0
                      have hfz18_1 := blk_frozen BK106.out 1
                      have hfz18_2 := blk_frozen BK106.out 2
                      have hfz18_3 := blk_frozen BK106.out 3
                      have hfz18_4 := blk_frozen BK106.out 4
                      go_wp2_with (first | ((with_reducible refine gate_callee (f := 81) rfl ?_); refine goesL_ (some 26) rfl rfl Tryz.func81 (by kernel_rfl) rfl #[.int .i64 a0_0] rfl (by (try simp only [List.map_toArray, List.map_cons, List.map_nil]); first | done | rfl | (simp only [List.length_drop, List.length_take]; rfl)) ?_; (with_reducible refine (spec_IsDrawNumber.calls a0_0 true _ A13.out).mono ?_); rintro e w' ⟨rfl, ⟨nd, rfl⟩⟩; refine ⟨_, rfl, ?_⟩))
                      go_ret
                      exact ⟨by first | rfl | (simp [errW_none, errW_some] <;> rfl) | (simp [*, errW_none, errW_some] <;> rfl), by repeat (first | (with_reducible first | exact HB.out | apply below_alloc | apply pw_below_drewN | apply below_drew1 | refine below_set ?_ GE106.out) | exact HB.out)⟩
                    · rw [if_neg c17] at H
                      have c17b0 : decide (x4_10 ≤ a0_1) = false := decide_eq_false c17
                      clear c17
                      obtain rfl := Option.some.inj H
                      have hcz19_0 : wc.cell? ⟨gb106, 0, none⟩ = some (.int .i64 a0_0) := (blk_cell BK106.out 0).trans rfl
                      have hcz19_1 : wc.cell? ⟨gb106, 1, none⟩ = some (.int .i64 a0_1) := (blk_cell BK106.out 1).trans rfl
                      have hcz19_2 : wc.cell? ⟨gb106, 2, none⟩ = some (.int .i64 a0_2) := (blk_cell BK106.out 2).trans rfl
                      have hcz19_3 : wc.cell? ⟨gb106, 3, none⟩ = some (.string a0_3) := (blk_cell BK106.out 3).trans rfl
                      have hcz19_4 : wc.cell? ⟨gb106, 4, none⟩ = some (.slice A0_4 l0_4.length c0_4) := (blk_cell BK106.out 4).trans rfl
                      have hfz19_0 := blk_frozen BK106.out 0
                      have hfz19_1 := blk_frozen BK106.out 1
                      have hfz19_2 := blk_frozen BK106.out 2
                      have hfz19_3 := blk_frozen BK106.out 3
                      have hfz19_4 := blk_frozen BK106.out 4
                      go_wp2_with (first | ((with_reducible refine gate_callee (f := 81) rfl ?_); refine goesL_ (some 26) rfl rfl Tryz.func81 (by kernel_rfl) rfl #[.int .i64 a0_0] rfl (by (try simp only [List.map_toArray, List.map_cons, List.map_nil]); first | done | rfl | (simp only [List.length_drop, List.length_take]; rfl)) ?_; (with_reducible refine (spec_IsDrawNumber.calls a0_0 true _ A13.out).mono ?_); rintro e w' ⟨rfl, ⟨nd, rfl⟩⟩; refine ⟨_, rfl, ?_⟩))
                      go_ret
                      exact ⟨by first | rfl | (simp [errW_none, errW_some] <;> rfl) | (simp [*, errW_none, errW_some] <;> rfl), by repeat (first | (with_reducible first | exact HB.out | apply below_alloc | apply pw_below_drewN | apply below_drew1 | refine below_set ?_ GE106.out) | exact HB.out)⟩
                  · rw [if_neg c16] at H
                    have c16b0 : (a0_2 == 0) = false := beq_eq_false_iff_ne.mpr c16
                    have c16b1 : (a0_2 != 0) = true := bne_iff_ne.mpr c16
                    obtain rfl := Option.some.inj H
                    have hcz20_0 : wc.cell? ⟨gb106, 0, none⟩ = some (.int .i64 a0_0) := (blk_cell BK106.out 0).trans rfl
                    have hcz20_1 : wc.cell? ⟨gb106, 1, none⟩ = some (.int .i64 a0_1) := (blk_cell BK106.out 1).trans rfl
                    have hcz20_2 : wc.cell? ⟨gb106, 2, none⟩ = some (.int .i64 a0_2) := (blk_cell BK106.out 2).trans rfl
                    have hcz20_3 : wc.cell? ⟨gb106, 3, none⟩ = some (.string a0_3) := (blk_cell BK106.out 3).trans rfl
                    have hcz20_4 : wc.cell? ⟨gb106, 4, none⟩ = some (.slice A0_4 l0_4.length c0_4) := (blk_cell BK106.out 4).trans rfl
                    have hfz20_0 := blk_frozen BK106.out 0
                    have hfz20_1 := blk_frozen BK106.out 1
                    have hfz20_2 := blk_frozen BK106.out 2
                    have hfz20_3 := blk_frozen BK106.out 3
                    have hfz20_4 := blk_frozen BK106.out 4
                    go_wp2_with (first | ((with_reducible refine gate_callee (f := 81) rfl ?_); refine goesL_ (some 26) rfl rfl Tryz.func81 (by kernel_rfl) rfl #[.int .i64 a0_0] rfl (by (try simp only [List.map_toArray, List.map_cons, List.map_nil]); first | done | rfl | (simp only [List.length_drop, List.length_take]; rfl)) ?_; (with_reducible refine (spec_IsDrawNumber.calls a0_0 true _ A13.out).mono ?_); rintro e w' ⟨rfl, ⟨nd, rfl⟩⟩; refine ⟨_, rfl, ?_⟩))
                    go_ret
                    exact ⟨by first | rfl | (simp [errW_none, errW_some] <;> rfl) | (simp [*, errW_none, errW_some] <;> rfl), by repeat (first | (with_reducible first | exact HB.out | apply below_alloc | apply pw_below_drewN | apply below_drew1 | refine below_set ?_ GE106.out) | exact HB.out)⟩
                · replace c15 := Bool.eq_false_iff.mpr c15
                  subst c15
                  have H1 : (some false) = some r := by rw [if_neg (show ¬ (false = true) by decide)] at H; exact H
                  clear H
                  have H := H1
                  clear H1
                  obtain rfl := Option.some.inj H
                  have hcz21_0 : wc.cell? ⟨gb106, 0, none⟩ = some (.int .i64 a0_0) := (blk_cell BK106.out 0).trans rfl
                  have hcz21_1 : wc.cell? ⟨gb106, 1, none⟩ = some (.int .i64 a0_1) := (blk_cell BK106.out 1).trans rfl
                  have hcz21_2 : wc.cell? ⟨gb106, 2, none⟩ = some (.int .i64 a0_2) := (blk_cell BK106.out 2).trans rfl
                  have hcz21_3 : wc.cell? ⟨gb106, 3, none⟩ = some (.string a0_3) := (blk_cell BK106.out 3).trans rfl
                  have hcz21_4 : wc.cell? ⟨gb106, 4, none⟩ = some (.slice A0_4 l0_4.length c0_4) := (blk_cell BK106.out 4).trans rfl
                  have hfz21_0 := blk_frozen BK106.out 0
                  have hfz21_1 := blk_frozen BK106.out 1
                  have hfz21_2 := blk_frozen BK106.out 2
                  have hfz21_3 := blk_frozen BK106.out 3
                  have hfz21_4 := blk_frozen BK106.out 4
                  go_wp2_with (first | ((with_reducible refine gate_callee (f := 81) rfl ?_); refine goesL_ (some 26) rfl rfl Tryz.func81 (by kernel_rfl) rfl #[.int .i64 a0_0] rfl (by (try simp only [List.map_toArray, List.map_cons, List.map_nil]); first | done | rfl | (simp only [List.length_drop, List.length_take]; rfl)) ?_; (with_reducible refine (spec_IsDrawNumber.calls a0_0 true _ A13.out).mono ?_); rintro e w' ⟨rfl, ⟨nd, rfl⟩⟩; refine ⟨_, rfl, ?_⟩))
                  go_ret
                  exact ⟨by first | rfl | (simp [errW_none, errW_some] <;> rfl) | (simp [*, errW_none, errW_some] <;> rfl), by repeat (first | (with_reducible first | exact HB.out | apply below_alloc | apply pw_below_drewN | apply below_drew1 | refine below_set ?_ GE106.out) | exact HB.out)⟩
              · replace c14 := Bool.eq_false_iff.mpr c14
                subst c14
                have H1 : (if a0_0 = 40 then (spec_IsDrawOp.j3 kj10 x3_1 true a0_0 a0_1 a0_2 a0_3 l0_4) else (spec_IsDrawOp.j3 kj10 x3_1 (a0_0 == 41) a0_0 a0_1 a0_2 a0_3 l0_4)) = some r := by rw [if_neg (show ¬ (false = true) by decide)] at H; exact H
                clear H
                have H := H1
                clear H1
                have HC22 := Aside0.mk H
                clear H
                have hcz23_0 : wc.cell? ⟨gb106, 0, none⟩ = some (.int .i64 a0_0) := (blk_cell BK106.out 0).trans rfl
                have hcz23_1 : wc.cell? ⟨gb106, 1, none⟩ = some (.int .i64 a0_1) := (blk_cell BK106.out 1).trans rfl
                have hcz23_2 : wc.cell? ⟨gb106, 2, none⟩ = some (.int .i64 a0_2) := (blk_cell BK106.out 2).trans rfl
                have hcz23_3 : wc.cell? ⟨gb106, 3, none⟩ = some (.string a0_3) := (blk_cell BK106.out 3).trans rfl
                have hcz23_4 : wc.cell? ⟨gb106, 4, none⟩ = some (.slice A0_4 l0_4.length c0_4) := (blk_cell BK106.out 4).trans rfl
                have hfz23_0 := blk_frozen BK106.out 0
                have hfz23_1 := blk_frozen BK106.out 1
                have hfz23_2 := blk_frozen BK106.out 2
                have hfz23_3 := blk_frozen BK106.out 3
                have hfz23_4 := blk_frozen BK106.out 4
                go_upto_region 7 with (first | ((with_reducible refine gate_callee (f := 81) rfl ?_); refine goesL_ (some 26) rfl rfl Tryz.func81 (by kernel_rfl) rfl #[.int .i64 a0_0] rfl (by (try simp only [List.map_toArray, List.map_cons, List.map_nil]); first | done | rfl | (simp only [List.length_drop, List.length_take]; rfl)) ?_; (with_reducible refine (spec_IsDrawNumber.calls a0_0 false _ A13.out).mono ?_); rintro e w' ⟨rfl, ⟨nd, rfl⟩⟩; refine ⟨_, rfl, ?_⟩))
                (try simp only [Act.put, List.setIfInBounds_toArray, List.set_cons_zero, List.set_cons_succ])
                go_cut [45] (fun v45 wc => ∃ (kq : Nat) (x45_21 : Bool), v45 = .bool x45_21 ∧ Aside0 (spec_IsDrawOp.j3 kq x3_1 x45_21 a0_0 a0_1 a0_2 a0_3 l0_4 = some r) ∧ Aside0 (kq ≤ kj10) ∧ Aside0 (wc.heap[gb106]? = some (.cells #[.int .i64 a0_0, .int .i64 a0_1, .int .i64 a0_2, .string a0_3, (.slice A0_4 l0_4.length c0_4)] 45 (0, 0))) ∧ Aside0 (Below w.heap.size w wc))
                case first =>
                  have H := HC22.out
                  clear HC22
                  by_cases c24 : a0_0 = 40
                  · rw [if_pos c24] at H
                    have c24b0 : (a0_0 == 40) = true := beq_iff_eq.mpr c24
                    have c24b1 : (a0_0 != 40) = false := bne_eq_false_iff_eq.mpr c24
                    clear c24
                    (first | rw [c24b0] | (simp only [i64_w, i32_w]; rw [c24b0]) | skip)
                    have H' := Aside0.mk H
                    clear H
                    have hcz25_0 : wc.cell? ⟨gb106, 0, none⟩ = some (.int .i64 a0_0) := (blk_cell BK106.out 0).trans rfl
                    have hcz25_1 : wc.cell? ⟨gb106, 1, none⟩ = some (.int .i64 a0_1) := (blk_cell BK106.out 1).trans rfl
                    have hcz25_2 : wc.cell? ⟨gb106, 2, none⟩ = some (.int .i64 a0_2) := (blk_cell BK106.out 2).trans rfl
                    have hcz25_3 : wc.cell? ⟨gb106, 3, none⟩ = some (.string a0_3) := (blk_cell BK106.out 3).trans rfl
                    have hcz25_4 : wc.cell? ⟨gb106, 4, none⟩ = some (.slice A0_4 l0_4.length c0_4) := (blk_cell BK106.out 4).trans rfl
                    have hfz25_0 := blk_frozen BK106.out 0
                    have hfz25_1 := blk_frozen BK106.out 1
                    have hfz25_2 := blk_frozen BK106.out 2
                    have hfz25_3 := blk_frozen BK106.out 3
                    have hfz25_4 := blk_frozen BK106.out 4
                    go_wp2
                    go_meet
                    case rel => exact ⟨_, (true), (by first | rfl | (simp; done) | (simp [*]; done)), H', ⟨by have := HJ1.out; have := HJ6.out; have := HJ10.out; first | omega | exact Nat.le_refl _⟩, ⟨by (with_reducible repeat (first | refine blk_drewN ?_ _ | refine blk_drew ?_ | refine blk_alloc ?_ _)); exact BK106.out⟩, ⟨by repeat (first | (with_reducible first | exact HB.out | apply below_alloc | apply pw_below_drewN | apply below_drew1 | refine below_set ?_ GE106.out) | exact HB.out)⟩⟩
                  · rw [if_neg c24] at H
                    have c24b0 : (a0_0 == 40) = false := beq_eq_false_iff_ne.mpr c24
                    have c24b1 : (a0_0 != 40) = true := bne_iff_ne.mpr c24
                    (first | rw [c24b0] | (simp only [i64_w, i32_w]; rw [c24b0]) | skip)
                    have H' := Aside0.mk H
                    clear H
                    have hcz26_0 : wc.cell? ⟨gb106, 0, none⟩ = some (.int .i64 a0_0) := (blk_cell BK106.out 0).trans rfl
                    have hcz26_1 : wc.cell? ⟨gb106, 1, none⟩ = some (.int .i64 a0_1) := (blk_cell BK106.out 1).trans rfl
                    have hcz26_2 : wc.cell? ⟨gb106, 2, none⟩ = some (.int .i64 a0_2) := (blk_cell BK106.out 2).trans rfl
                    have hcz26_3 : wc.cell? ⟨gb106, 3, none⟩ = some (.string a0_3) := (blk_cell BK106.out 3).trans rfl
                    have hcz26_4 : wc.cell? ⟨gb106, 4, none⟩ = some (.slice A0_4 l0_4.length c0_4) := (blk_cell BK106.out 4).trans rfl
                    have hfz26_0 := blk_frozen BK106.out 0
                    have hfz26_1 := blk_frozen BK106.out 1
                    have hfz26_2 := blk_frozen BK106.out 2
                    have hfz26_3 := blk_frozen BK106.out 3
                    have hfz26_4 := blk_frozen BK106.out 4
                    go_wp2
                    go_meet
                    case rel => exact ⟨_, ((a0_0 == 41)), (by first | rfl | (simp; done) | (simp [*]; done)), H', ⟨by have := HJ1.out; have := HJ6.out; have := HJ10.out; first | omega | exact Nat.le_refl _⟩, ⟨by (with_reducible repeat (first | refine blk_drewN ?_ _ | refine blk_drew ?_ | refine blk_alloc ?_ _)); exact BK106.out⟩, ⟨by repeat (first | (with_reducible first | exact HB.out | apply below_alloc | apply pw_below_drewN | apply below_drew1 | refine below_set ?_ GE106.out) | exact HB.out)⟩⟩
                case rest => as_aux_lemma =>
                  clear HC22
                  try clear c1
                  try clear c2
                  try clear p2
                  try clear c4
                  try clear c4b0
                  try clear c4b1
                  try clear c8
                  try clear c8b0
                  try clear c8b1
                  try clear c12
                  try clear c14
                  try clear c15
                  try clear c16
                  try clear c16b0
                  try clear c16b1
                  try clear c17
                  try clear c17b0
                  try clear c21
                  try clear c24
                  try clear c24b0
                  try clear c24b1
                  try clear hcz10_0
                  try clear hcz10_1
                  try clear hcz10_2
                  try clear hcz10_3
                  try clear hcz10_4
                  try clear hcz18_0
                  try clear hcz18_1
                  try clear hcz18_2
                  try clear hcz18_3
                  try clear hcz18_4
                  try clear hcz19_0
                  try clear hcz19_1
                  try clear hcz19_2
                  try clear hcz19_3
                  try clear hcz19_4
                  try clear hcz20_0
                  try clear hcz20_1
                  try clear hcz20_2
                  try clear hcz20_3
                  try clear hcz20_4
                  try clear hcz21_0
                  try clear hcz21_1
                  try clear hcz21_2
                  try clear hcz21_3
                  try clear hcz21_4
                  try clear hcz23_0
                  try clear hcz23_1
                  try clear hcz23_2
                  try clear hcz23_3
                  try clear hcz23_4
                  try clear hcz25_0
                  try clear hcz25_1
                  try clear hcz25_2
                  try clear hcz25_3
                  try clear hcz25_4
                  try clear hcz26_0
                  try clear hcz26_1
                  try clear hcz26_2
                  try clear hcz26_3
                  try clear hcz26_4
                  try clear hcz5_0
                  try clear hcz5_1
                  try clear hcz5_2
                  try clear hcz5_3
                  try clear hcz5_4
                  try clear hcz6_0
                  try clear hcz6_1
                  try clear hcz6_2
                  try clear hcz6_3
                  try clear hcz6_4
                  try clear hcz9_0
                  try clear hcz9_1
                  try clear hcz9_2
                  try clear hcz9_3
                  try clear hcz9_4
                  try clear hfz10_0
                  try clear hfz10_1
                  try clear hfz10_2
                  try clear hfz10_3
                  try clear hfz10_4
                  try clear hfz18_0
                  try clear hfz18_1
                  try clear hfz18_2
                  try clear hfz18_3
                  try clear hfz18_4
                  try clear hfz19_0
                  try clear hfz19_1
                  try clear hfz19_2
                  try clear hfz19_3
                  try clear hfz19_4
                  try clear hfz20_0
                  try clear hfz20_1
                  try clear hfz20_2
                  try clear hfz20_3
                  try clear hfz20_4
                  try clear hfz21_0
                  try clear hfz21_1
                  try clear hfz21_2
                  try clear hfz21_3
                  try clear hfz21_4
                  try clear hfz23_0
                  try clear hfz23_1
                  try clear hfz23_2
                  try clear hfz23_3
                  try clear hfz23_4
                  try clear hfz25_0
                  try clear hfz25_1
                  try clear hfz25_2
                  try clear hfz25_3
                  try clear hfz25_4
                  try clear hfz26_0
                  try clear hfz26_1
                  try clear hfz26_2
                  try clear hfz26_3
                  try clear hfz26_4
                  try clear hfz5_0
                  try clear hfz5_1
                  try clear hfz5_2
                  try clear hfz5_3
                  try clear hfz5_4
                  try clear hfz6_0
                  try clear hfz6_1
                  try clear hfz6_2
                  try clear hfz6_3
                  try clear hfz6_4
                  try clear hfz9_0
                  try clear hfz9_1
                  try clear hfz9_2
                  try clear hfz9_3
                  try clear hfz9_4
                  try clear p2
                  obtain ⟨kq, x45_21, rfl, HA, HJ21, BK106, HB⟩ := hcut
                  cases kq with
                  | zero => exact absurd HA.out (by simp [spec_IsDrawOp.j3])
                  | succ kj21 =>
                    have H := HA.out
                    clear HA
                    simp only [spec_IsDrawOp.j3] at H
                    by_cases c27 : x45_21 = true
                    · subst c27
                      have H1 : (if x3_1 = true then (if a0_1 ≥ 1 then (if a0_1 ≤ 99 then (if a0_2 ≥ 1 then (some (decide (a0_2 ≤ 99))) else (some false)) else (some false)) else (some false)) else (some false)) = some r := by rw [if_pos rfl] at H; exact H
                      clear H
                      have H := H1
                      clear H1
                      by_cases c28 : x3_1 = true
                      · subst c28
                        have H1 : (if a0_1 ≥ 1 then (if a0_1 ≤ 99 then (if a0_2 ≥ 1 then (some (decide (a0_2 ≤ 99))) else (some false)) else (some false)) else (some false)) = some r := by rw [if_pos rfl] at H; exact H
                        clear H
                        have H := H1
                        clear H1
                        by_cases c29 : a0_1 ≥ 1
                        · rw [if_pos c29] at H
                          have c29b0 : decide (1 ≤ a0_1) = true := decide_eq_true c29
                          clear c29
                          by_cases c30 : a0_1 ≤ 99
                          · rw [if_pos c30] at H
                            have c30b0 : decide (a0_1 ≤ 99) = true := decide_eq_true c30
                            clear c30
                            by_cases c31 : a0_2 ≥ 1
                            · rw [if_pos c31] at H
                              have c31b0 : decide (1 ≤ a0_2) = true := decide_eq_true c31
                              clear c31
                              obtain rfl := Option.some.inj H
                              have hcz32_0 : wc.cell? ⟨gb106, 0, none⟩ = some (.int .i64 a0_0) := (blk_cell BK106.out 0).trans rfl
                              have hcz32_1 : wc.cell? ⟨gb106, 1, none⟩ = some (.int .i64 a0_1) := (blk_cell BK106.out 1).trans rfl
                              have hcz32_2 : wc.cell? ⟨gb106, 2, none⟩ = some (.int .i64 a0_2) := (blk_cell BK106.out 2).trans rfl
                              have hcz32_3 : wc.cell? ⟨gb106, 3, none⟩ = some (.string a0_3) := (blk_cell BK106.out 3).trans rfl
                              have hcz32_4 : wc.cell? ⟨gb106, 4, none⟩ = some (.slice A0_4 l0_4.length c0_4) := (blk_cell BK106.out 4).trans rfl
                              have hfz32_0 := blk_frozen BK106.out 0
                              have hfz32_1 := blk_frozen BK106.out 1
                              have hfz32_2 := blk_frozen BK106.out 2
                              have hfz32_3 := blk_frozen BK106.out 3
                              have hfz32_4 := blk_frozen BK106.out 4
                              go_wp2
                              go_ret
                              exact ⟨by first | rfl | (simp [errW_none, errW_some] <;> rfl) | (simp [*, errW_none, errW_some] <;> rfl), by repeat (first | (with_reducible first | exact HB.out | apply below_alloc | apply pw_below_drewN | apply below_drew1 | refine below_set ?_ GE106.out) | exact HB.out)⟩
                            · rw [if_neg c31] at H
                              have c31b0 : decide (1 ≤ a0_2) = false := decide_eq_false c31
                              clear c31
                              obtain rfl := Option.some.inj H
                              have hcz33_0 : wc.cell? ⟨gb106, 0, none⟩ = some (.int .i64 a0_0) := (blk_cell BK106.out 0).trans rfl
                              have hcz33_1 : wc.cell? ⟨gb106, 1, none⟩ = some (.int .i64 a0_1) := (blk_cell BK106.out 1).trans rfl
                              have hcz33_2 : wc.cell? ⟨gb106, 2, none⟩ = some (.int .i64 a0_2) := (blk_cell BK106.out 2).trans rfl
                              have hcz33_3 : wc.cell? ⟨gb106, 3, none⟩ = some (.string a0_3) := (blk_cell BK106.out 3).trans rfl
                              have hcz33_4 : wc.cell? ⟨gb106, 4, none⟩ = some (.slice A0_4 l0_4.length c0_4) := (blk_cell BK106.out 4).trans rfl
                              have hfz33_0 := blk_frozen BK106.out 0
                              have hfz33_1 := blk_frozen BK106.out 1
                              have hfz33_2 := blk_frozen BK106.out 2
                              have hfz33_3 := blk_frozen BK106.out 3
                              have hfz33_4 := blk_frozen BK106.out 4
                              go_wp2
                              go_ret
                              exact ⟨by first | rfl | (simp [errW_none, errW_some] <;> rfl) | (simp [*, errW_none, errW_some] <;> rfl), by repeat (first | (with_reducible first | exact HB.out | apply below_alloc | apply pw_below_drewN | apply below_drew1 | refine below_set ?_ GE106.out) | exact HB.out)⟩
                          · rw [if_neg c30] at H
                            have c30b0 : decide (a0_1 ≤ 99) = false := decide_eq_false c30
                            clear c30
                            obtain rfl := Option.some.inj H
                            have hcz34_0 : wc.cell? ⟨gb106, 0, none⟩ = some (.int .i64 a0_0) := (blk_cell BK106.out 0).trans rfl
                            have hcz34_1 : wc.cell? ⟨gb106, 1, none⟩ = some (.int .i64 a0_1) := (blk_cell BK106.out 1).trans rfl
                            have hcz34_2 : wc.cell? ⟨gb106, 2, none⟩ = some (.int .i64 a0_2) := (blk_cell BK106.out 2).trans rfl
                            have hcz34_3 : wc.cell? ⟨gb106, 3, none⟩ = some (.string a0_3) := (blk_cell BK106.out 3).trans rfl
                            have hcz34_4 : wc.cell? ⟨gb106, 4, none⟩ = some (.slice A0_4 l0_4.length c0_4) := (blk_cell BK106.out 4).trans rfl
                            have hfz34_0 := blk_frozen BK106.out 0
                            have hfz34_1 := blk_frozen BK106.out 1
                            have hfz34_2 := blk_frozen BK106.out 2
                            have hfz34_3 := blk_frozen BK106.out 3
                            have hfz34_4 := blk_frozen BK106.out 4
                            go_wp2
                            go_ret
                            exact ⟨by first | rfl | (simp [errW_none, errW_some] <;> rfl) | (simp [*, errW_none, errW_some] <;> rfl), by repeat (first | (with_reducible first | exact HB.out | apply below_alloc | apply pw_below_drewN | apply below_drew1 | refine below_set ?_ GE106.out) | exact HB.out)⟩
                        · rw [if_neg c29] at H
                          have c29b0 : decide (1 ≤ a0_1) = false := decide_eq_false c29
                          clear c29
                          obtain rfl := Option.some.inj H
                          have hcz35_0 : wc.cell? ⟨gb106, 0, none⟩ = some (.int .i64 a0_0) := (blk_cell BK106.out 0).trans rfl
                          have hcz35_1 : wc.cell? ⟨gb106, 1, none⟩ = some (.int .i64 a0_1) := (blk_cell BK106.out 1).trans rfl
                          have hcz35_2 : wc.cell? ⟨gb106, 2, none⟩ = some (.int .i64 a0_2) := (blk_cell BK106.out 2).trans rfl
                          have hcz35_3 : wc.cell? ⟨gb106, 3, none⟩ = some (.string a0_3) := (blk_cell BK106.out 3).trans rfl
                          have hcz35_4 : wc.cell? ⟨gb106, 4, none⟩ = some (.slice A0_4 l0_4.length c0_4) := (blk_cell BK106.out 4).trans rfl
                          have hfz35_0 := blk_frozen BK106.out 0
                          have hfz35_1 := blk_frozen BK106.out 1
                          have hfz35_2 := blk_frozen BK106.out 2
                          have hfz35_3 := blk_frozen BK106.out 3
                          have hfz35_4 := blk_frozen BK106.out 4
                          go_wp2
                          go_ret
                          exact ⟨by first | rfl | (simp [errW_none, errW_some] <;> rfl) | (simp [*, errW_none, errW_some] <;> rfl), by repeat (first | (with_reducible first | exact HB.out | apply below_alloc | apply pw_below_drewN | apply below_drew1 | refine below_set ?_ GE106.out) | exact HB.out)⟩
                      · replace c28 := Bool.eq_false_iff.mpr c28
                        subst c28
                        have H1 : (some false) = some r := by rw [if_neg (show ¬ (false = true) by decide)] at H; exact H
                        clear H
                        have H := H1
                        clear H1
                        obtain rfl := Option.some.inj H
                        go_wp2
                        go_ret
                        exact ⟨by first | rfl | (simp [errW_none, errW_some] <;> rfl) | (simp [*, errW_none, errW_some] <;> rfl), by repeat (first | (with_reducible first | exact HB.out | apply below_alloc | apply pw_below_drewN | apply below_drew1 | refine below_set ?_ GE106.out) | exact HB.out)⟩
                    · replace c27 := Bool.eq_false_iff.mpr c27
                      subst c27
                      have H1 : (if a0_0 = 42 then (if x3_1 = true then (if a0_1 ≥ 1 then (if a0_2 > a0_1 then (some (decide (a0_2 ≤ 99))) else (some false)) else (some false)) else (some false)) else (if a0_0 = 50 then (spec_IsDrawOp.j4 kj21 x3_1 true a0_0 a0_1 a0_2 a0_3 l0_4) else (spec_IsDrawOp.j4 kj21 x3_1 (a0_0 == 51) a0_0 a0_1 a0_2 a0_3 l0_4))) = some r := by rw [if_neg (show ¬ (false = true) by decide)] at H; exact H
                      clear H
                      have H := H1
                      clear H1
                      by_cases c36 : a0_0 = 42
                      · rw [if_pos c36] at H
                        have c36b0 : (a0_0 == 42) = true := beq_iff_eq.mpr c36
                        have c36b1 : (a0_0 != 42) = false := bne_eq_false_iff_eq.mpr c36
                        clear c36
                        by_cases c37 : x3_1 = true
                        · subst c37
                          have H1 : (if a0_1 ≥ 1 then (if a0_2 > a0_1 then (some (decide (a0_2 ≤ 99))) else (some false)) else (some false)) = some r := by rw [if_pos rfl] at H; exact H
                          clear H
                          have H := H1
                          clear H1
                          by_cases c38 : a0_1 ≥ 1
                          · rw [if_pos c38] at H
                            have c38b0 : decide (1 ≤ a0_1) = true := decide_eq_true c38
                            clear c38
                            by_cases c39 : a0_2 > a0_1
                            · rw [if_pos c39] at H
                              have c39b0 : decide (a0_1 < a0_2) = true := decide_eq_true c39
                              clear c39
                              obtain rfl := Option.some.inj H
                              have hcz40_0 : wc.cell? ⟨gb106, 0, none⟩ = some (.int .i64 a0_0) := (blk_cell BK106.out 0).trans rfl
                              have hcz40_1 : wc.cell? ⟨gb106, 1, none⟩ = some (.int .i64 a0_1) := (blk_cell BK106.out 1).trans rfl
                              have hcz40_2 : wc.cell? ⟨gb106, 2, none⟩ = some (.int .i64 a0_2) := (blk_cell BK106.out 2).trans rfl
                              have hcz40_3 : wc.cell? ⟨gb106, 3, none⟩ = some (.string a0_3) := (blk_cell BK106.out 3).trans rfl
                              have hcz40_4 : wc.cell? ⟨gb106, 4, none⟩ = some (.slice A0_4 l0_4.length c0_4) := (blk_cell BK106.out 4).trans rfl
                              have hfz40_0 := blk_frozen BK106.out 0
                              have hfz40_1 := blk_frozen BK106.out 1
                              have hfz40_2 := blk_frozen BK106.out 2
                              have hfz40_3 := blk_frozen BK106.out 3
                              have hfz40_4 := blk_frozen BK106.out 4
                              go_wp2
                              go_ret
                              exact ⟨by first | rfl | (simp [errW_none, errW_some] <;> rfl) | (simp [*, errW_none, errW_some] <;> rfl), by repeat (first | (with_reducible first | exact HB.out | apply below_alloc | apply pw_below_drewN | apply below_drew1 | refine below_set ?_ GE106.out) | exact HB.out)⟩
                            · rw [if_neg c39] at H
                              have c39b0 : decide (a0_1 < a0_2) = false := decide_eq_false c39
                              clear c39
                              obtain rfl := Option.some.inj H
                              have hcz41_0 : wc.cell? ⟨gb106, 0, none⟩ = some (.int .i64 a0_0) := (blk_cell BK106.out 0).trans rfl
                              have hcz41_1 : wc.cell? ⟨gb106, 1, none⟩ = some (.int .i64 a0_1) := (blk_cell BK106.out 1).trans rfl
                              have hcz41_2 : wc.cell? ⟨gb106, 2, none⟩ = some (.int .i64 a0_2) := (blk_cell BK106.out 2).trans rfl
                              have hcz41_3 : wc.cell? ⟨gb106, 3, none⟩ = some (.string a0_3) := (blk_cell BK106.out 3).trans rfl
                              have hcz41_4 : wc.cell? ⟨gb106, 4, none⟩ = some (.slice A0_4 l0_4.length c0_4) := (blk_cell BK106.out 4).trans rfl
                              have hfz41_0 := blk_frozen BK106.out 0
                              have hfz41_1 := blk_frozen BK106.out 1
                              have hfz41_2 := blk_frozen BK106.out 2
                              have hfz41_3 := blk_frozen BK106.out 3
                              have hfz41_4 := blk_frozen BK106.out 4
                              go_wp2
                              go_ret
                              exact ⟨by first | rfl | (simp [errW_none, errW_some] <;> rfl) | (simp [*, errW_none, errW_some] <;> rfl), by repeat (first | (with_reducible first | exact HB.out | apply below_alloc | apply pw_below_drewN | apply below_drew1 | refine below_set ?_ GE106.out) | exact HB.out)⟩
                          · rw [if_neg c38] at H
                            have c38b0 : decide (1 ≤ a0_1) = false := decide_eq_false c38
                            clear c38
                            obtain rfl := Option.some.inj H
                            have hcz42_0 : wc.cell? ⟨gb106, 0, none⟩ = some (.int .i64 a0_0) := (blk_cell BK106.out 0).trans rfl
                            have hcz42_1 : wc.cell? ⟨gb106, 1, none⟩ = some (.int .i64 a0_1) := (blk_cell BK106.out 1).trans rfl
                            have hcz42_2 : wc.cell? ⟨gb106, 2, none⟩ = some (.int .i64 a0_2) := (blk_cell BK106.out 2).trans rfl
                            have hcz42_3 : wc.cell? ⟨gb106, 3, none⟩ = some (.string a0_3) := (blk_cell BK106.out 3).trans rfl
                            have hcz42_4 : wc.cell? ⟨gb106, 4, none⟩ = some (.slice A0_4 l0_4.length c0_4) := (blk_cell BK106.out 4).trans rfl
                            have hfz42_0 := blk_frozen BK106.out 0
                            have hfz42_1 := blk_frozen BK106.out 1
                            have hfz42_2 := blk_frozen BK106.out 2
                            have hfz42_3 := blk_frozen BK106.out 3
                            have hfz42_4 := blk_frozen BK106.out 4
                            go_wp2
                            go_ret
                            exact ⟨by first | rfl | (simp [errW_none, errW_some] <;> rfl) | (simp [*, errW_none, errW_some] <;> rfl), by repeat (first | (with_reducible first | exact HB.out | apply below_alloc | apply pw_below_drewN | apply below_drew1 | refine below_set ?_ GE106.out) | exact HB.out)⟩
                        · replace c37 := Bool.eq_false_iff.mpr c37
                          subst c37
                          have H1 : (some false) = some r := by rw [if_neg (show ¬ (false = true) by decide)] at H; exact H
                          clear H
                          have H := H1
                          clear H1
                          obtain rfl := Option.some.inj H
                          have hcz43_0 : wc.cell? ⟨gb106, 0, none⟩ = some (.int .i64 a0_0) := (blk_cell BK106.out 0).trans rfl
                          have hcz43_1 : wc.cell? ⟨gb106, 1, none⟩ = some (.int .i64 a0_1) := (blk_cell BK106.out 1).trans rfl
                          have hcz43_2 : wc.cell? ⟨gb106, 2, none⟩ = some (.int .i64 a0_2) := (blk_cell BK106.out 2).trans rfl
                          have hcz43_3 : wc.cell? ⟨gb106, 3, none⟩ = some (.string a0_3) := (blk_cell BK106.out 3).trans rfl
                          have hcz43_4 : wc.cell? ⟨gb106, 4, none⟩ = some (.slice A0_4 l0_4.length c0_4) := (blk_cell BK106.out 4).trans rfl
                          have hfz43_0 := blk_frozen BK106.out 0
                          have hfz43_1 := blk_frozen BK106.out 1
                          have hfz43_2 := blk_frozen BK106.out 2
                          have hfz43_3 := blk_frozen BK106.out 3
                          have hfz43_4 := blk_frozen BK106.out 4
                          go_wp2
                          go_ret
                          exact ⟨by first | rfl | (simp [errW_none, errW_some] <;> rfl) | (simp [*, errW_none, errW_some] <;> rfl), by repeat (first | (with_reducible first | exact HB.out | apply below_alloc | apply pw_below_drewN | apply below_drew1 | refine below_set ?_ GE106.out) | exact HB.out)⟩
                      · rw [if_neg c36] at H
                        have c36b0 : (a0_0 == 42) = false := beq_eq_false_iff_ne.mpr c36
                        have c36b1 : (a0_0 != 42) = true := bne_iff_ne.mpr c36
                        have HC44 := Aside0.mk H
                        clear H
                        have hcz45_0 : wc.cell? ⟨gb106, 0, none⟩ = some (.int .i64 a0_0) := (blk_cell BK106.out 0).trans rfl
                        have hcz45_1 : wc.cell? ⟨gb106, 1, none⟩ = some (.int .i64 a0_1) := (blk_cell BK106.out 1).trans rfl
                        have hcz45_2 : wc.cell? ⟨gb106, 2, none⟩ = some (.int .i64 a0_2) := (blk_cell BK106.out 2).trans rfl
                        have hcz45_3 : wc.cell? ⟨gb106, 3, none⟩ = some (.string a0_3) := (blk_cell BK106.out 3).trans rfl
                        have hcz45_4 : wc.cell? ⟨gb106, 4, none⟩ = some (.slice A0_4 l0_4.length c0_4) := (blk_cell BK106.out 4).trans rfl
                        have hfz45_0 := blk_frozen BK106.out 0
                        have hfz45_1 := blk_frozen BK106.out 1
                        have hfz45_2 := blk_frozen BK106.out 2
                        have hfz45_3 := blk_frozen BK106.out 3
                        have hfz45_4 := blk_frozen BK106.out 4
                        go_upto_region 11 with (fail)
                        go_cut [97] (fun v97 wc => ∃ (kq : Nat) (x97_43 : Bool), v97 = .bool x97_43 ∧ Aside0 (spec_IsDrawOp.j4 kq x3_1 x97_43 a0_0 a0_1 a0_2 a0_3 l0_4 = some r) ∧ Aside0 (kq ≤ kj21) ∧ Aside0 (wc.heap[gb106]? = some (.cells #[.int .i64 a0_0, .int .i64 a0_1, .int .i64 a0_2, .string a0_3, (.slice A0_4 l0_4.length c0_4)] 45 (0, 0))) ∧ Aside0 (Below w.heap.size w wc))
                        case first =>
                          have H := HC44.out
                          clear HC44
                          by_cases c46 : a0_0 = 50
                          · rw [if_pos c46] at H
                            have c46b0 : (a0_0 == 50) = true := beq_iff_eq.mpr c46
                            have c46b1 : (a0_0 != 50) = false := bne_eq_false_iff_eq.mpr c46
                            clear c46
                            (first | rw [c46b0] | (simp only [i64_w, i32_w]; rw [c46b0]) | skip)
                            have H' := Aside0.mk H
                            clear H
                            have hcz47_0 : wc.cell? ⟨gb106, 0, none⟩ = some (.int .i64 a0_0) := (blk_cell BK106.out 0).trans rfl
                            have hcz47_1 : wc.cell? ⟨gb106, 1, none⟩ = some (.int .i64 a0_1) := (blk_cell BK106.out 1).trans rfl
                            have hcz47_2 : wc.cell? ⟨gb106, 2, none⟩ = some (.int .i64 a0_2) := (blk_cell BK106.out 2).trans rfl
                            have hcz47_3 : wc.cell? ⟨gb106, 3, none⟩ = some (.string a0_3) := (blk_cell BK106.out 3).trans rfl
                            have hcz47_4 : wc.cell? ⟨gb106, 4, none⟩ = some (.slice A0_4 l0_4.length c0_4) := (blk_cell BK106.out 4).trans rfl
                            have hfz47_0 := blk_frozen BK106.out 0
                            have hfz47_1 := blk_frozen BK106.out 1
                            have hfz47_2 := blk_frozen BK106.out 2
                            have hfz47_3 := blk_frozen BK106.out 3
                            have hfz47_4 := blk_frozen BK106.out 4
                            go_wp2
                            go_meet
                            case rel => exact ⟨_, (true), (by first | rfl | (simp; done) | (simp [*]; done)), H', ⟨by have := HJ1.out; have := HJ6.out; have := HJ10.out; have := HJ21.out; first | omega | exact Nat.le_refl _⟩, ⟨by (with_reducible repeat (first | refine blk_drewN ?_ _ | refine blk_drew ?_ | refine blk_alloc ?_ _)); exact BK106.out⟩, ⟨by repeat (first | (with_reducible first | exact HB.out | apply below_alloc | apply pw_below_drewN | apply below_drew1 | refine below_set ?_ GE106.out) | exact HB.out)⟩⟩
                          · rw [if_neg c46] at H
                            have c46b0 : (a0_0 == 50) = false := beq_eq_false_iff_ne.mpr c46
                            have c46b1 : (a0_0 != 50) = true := bne_iff_ne.mpr c46
                            (first | rw [c46b0] | (simp only [i64_w, i32_w]; rw [c46b0]) | skip)
                            have H' := Aside0.mk H
                            clear H
                            have hcz48_0 : wc.cell? ⟨gb106, 0, none⟩ = some (.int .i64 a0_0) := (blk_cell BK106.out 0).trans rfl
                            have hcz48_1 : wc.cell? ⟨gb106, 1, none⟩ = some (.int .i64 a0_1) := (blk_cell BK106.out 1).trans rfl
                            have hcz48_2 : wc.cell? ⟨gb106, 2, none⟩ = some (.int .i64 a0_2) := (blk_cell BK106.out 2).trans rfl
                            have hcz48_3 : wc.cell? ⟨gb106, 3, none⟩ = some (.string a0_3) := (blk_cell BK106.out 3).trans rfl
                            have hcz48_4 : wc.cell? ⟨gb106, 4, none⟩ = some (.slice A0_4 l0_4.length c0_4) := (blk_cell BK106.out 4).trans rfl
                            have hfz48_0 := blk_frozen BK106.out 0
                            have hfz48_1 := blk_frozen BK106.out 1
                            have hfz48_2 := blk_frozen BK106.out 2
                            have hfz48_3 := blk_frozen BK106.out 3
                            have hfz48_4 := blk_frozen BK106.out 4
                            go_wp2
                            go_meet
                            case rel => exact ⟨_, ((a0_0 == 51)), (by first | rfl | (simp; done) | (simp [*]; done)), H', ⟨by have := HJ1.out; have := HJ6.out; have := HJ10.out; have := HJ21.out; first | omega | exact Nat.le_refl _⟩, ⟨by (with_reducible repeat (first | refine blk_drewN ?_ _ | refine blk_drew ?_ | refine blk_alloc ?_ _)); exact BK106.out⟩, ⟨by repeat (first | (with_reducible first | exact HB.out | apply below_alloc | apply pw_below_drewN | apply below_drew1 | refine below_set ?_ GE106.out) | exact HB.out)⟩⟩
                        case rest => as_aux_lemma =>
                          clear HC44
                          try clear c1
                          try clear c2
                          try clear p2
                          try clear c3
                          try clear c4
                          try clear c4b0
                          try clear c4b1
                          try clear c8
                          try clear c8b0
                          try clear c8b1
                          try clear c12
                          try clear c14
                          try clear c15
                          try clear c16
                          try clear c16b0
                          try clear c16b1
                          try clear c17
                          try clear c17b0
                          try clear c21
                          try clear c24
                          try clear c24b0
                          try clear c24b1
                          try clear c27
                          try clear c28
                          try clear c29
                          try clear c29b0
                          try clear c30
                          try clear c30b0
                          try clear c31
                          try clear c31b0
                          try clear c36
                          try clear c36b0
                          try clear c36b1
                          try clear c37
                          try clear c38
                          try clear c38b0
                          try clear c39
                          try clear c39b0
                          try clear c46
                          try clear c46b0
                          try clear c46b1
                          try clear hcz10_0
                          try clear hcz10_1
                          try clear hcz10_2
                          try clear hcz10_3
                          try clear hcz10_4
                          try clear hcz18_0
                          try clear hcz18_1
                          try clear hcz18_2
                          try clear hcz18_3
                          try clear hcz18_4
                          try clear hcz19_0
                          try clear hcz19_1
                          try clear hcz19_2
                          try clear hcz19_3
                          try clear hcz19_4
                          try clear hcz20_0
                          try clear hcz20_1
                          try clear hcz20_2
                          try clear hcz20_3
                          try clear hcz20_4
                          try clear hcz21_0
                          try clear hcz21_1
                          try clear hcz21_2
                          try clear hcz21_3
                          try clear hcz21_4
                          try clear hcz23_0
                          try clear hcz23_1
                          try clear hcz23_2
                          try clear hcz23_3
                          try clear hcz23_4
                          try clear hcz25_0
                          try clear hcz25_1
                          try clear hcz25_2
                          try clear hcz25_3
                          try clear hcz25_4
                          try clear hcz26_0
                          try clear hcz26_1
                          try clear hcz26_2
                          try clear hcz26_3
                          try clear hcz26_4
                          try clear hcz32_0
                          try clear hcz32_1
                          try clear hcz32_2
                          try clear hcz32_3
                          try clear hcz32_4
                          try clear hcz33_0
                          try clear hcz33_1
                          try clear hcz33_2
                          try clear hcz33_3
                          try clear hcz33_4
                          try clear hcz34_0
                          try clear hcz34_1
                          try clear hcz34_2
                          try clear hcz34_3
                          try clear hcz34_4
                          try clear hcz35_0
                          try clear hcz35_1
                          try clear hcz35_2
                          try clear hcz35_3
                          try clear hcz35_4
                          try clear hcz40_0
                          try clear hcz40_1
                          try clear hcz40_2
                          try clear hcz40_3
                          try clear hcz40_4
                          try clear hcz41_0
                          try clear hcz41_1
                          try clear hcz41_2
                          try clear hcz41_3
                          try clear hcz41_4
                          try clear hcz42_0
                          try clear hcz42_1
                          try clear hcz42_2
                          try clear hcz42_3
                          try clear hcz42_4
                          try clear hcz43_0
                          try clear hcz43_1
                          try clear hcz43_2
                          try clear hcz43_3
                          try clear hcz43_4
                          try clear hcz45_0
                          try clear hcz45_1
                          try clear hcz45_2
                          try clear hcz45_3
                          try clear hcz45_4
                          try clear hcz47_0
                          try clear hcz47_1
                          try clear hcz47_2
                          try clear hcz47_3
                          try clear hcz47_4
                          try clear hcz48_0
                          try clear hcz48_1
                          try clear hcz48_2
                          try clear hcz48_3
                          try clear hcz48_4
                          try clear hcz5_0
                          try clear hcz5_1
                          try clear hcz5_2
                          try clear hcz5_3
                          try clear hcz5_4
                          try clear hcz6_0
                          try clear hcz6_1
                          try clear hcz6_2
                          try clear hcz6_3
                          try clear hcz6_4
                          try clear hcz9_0
                          try clear hcz9_1
                          try clear hcz9_2
                          try clear hcz9_3
                          try clear hcz9_4
                          try clear hfz10_0
                          try clear hfz10_1
                          try clear hfz10_2
                          try clear hfz10_3
                          try clear hfz10_4
                          try clear hfz18_0
                          try clear hfz18_1
                          try clear hfz18_2
                          try clear hfz18_3
                          try clear hfz18_4
                          try clear hfz19_0
                          try clear hfz19_1
                          try clear hfz19_2
                          try clear hfz19_3
                          try clear hfz19_4
                          try clear hfz20_0
                          try clear hfz20_1
                          try clear hfz20_2
                          try clear hfz20_3
                          try clear hfz20_4
                          try clear hfz21_0
                          try clear hfz21_1
                          try clear hfz21_2
                          try clear hfz21_3
                          try clear hfz21_4
                          try clear hfz23_0
                          try clear hfz23_1
                          try clear hfz23_2
                          try clear hfz23_3
                          try clear hfz23_4
                          try clear hfz25_0
                          try clear hfz25_1
                          try clear hfz25_2
                          try clear hfz25_3
                          try clear hfz25_4
                          try clear hfz26_0
                          try clear hfz26_1
                          try clear hfz26_2
                          try clear hfz26_3
                          try clear hfz26_4
                          try clear hfz32_0
                          try clear hfz32_1
                          try clear hfz32_2
                          try clear hfz32_3
                          try clear hfz32_4
                          try clear hfz33_0
                          try clear hfz33_1
                          try clear hfz33_2
                          try clear hfz33_3
                          try clear hfz33_4
                          try clear hfz34_0
                          try clear hfz34_1
                          try clear hfz34_2
                          try clear hfz34_3
                          try clear hfz34_4
                          try clear hfz35_0
                          try clear hfz35_1
                          try clear hfz35_2
                          try clear hfz35_3
                          try clear hfz35_4
                          try clear hfz40_0
                          try clear hfz40_1
                          try clear hfz40_2
                          try clear hfz40_3
                          try clear hfz40_4
                          try clear hfz41_0
                          try clear hfz41_1
                          try clear hfz41_2
                          try clear hfz41_3
                          try clear hfz41_4
                          try clear hfz42_0
                          try clear hfz42_1
                          try clear hfz42_2
                          try clear hfz42_3
                          try clear hfz42_4
                          try clear hfz43_0
                          try clear hfz43_1
                          try clear hfz43_2
                          try clear hfz43_3
                          try clear hfz43_4
                          try clear hfz45_0
                          try clear hfz45_1
                          try clear hfz45_2
                          try clear hfz45_3
                          try clear hfz45_4
                          try clear hfz47_0
                          try clear hfz47_1
                          try clear hfz47_2
                          try clear hfz47_3
                          try clear hfz47_4
                          try clear hfz48_0
                          try clear hfz48_1
                          try clear hfz48_2
                          try clear hfz48_3
                          try clear hfz48_4
                          try clear hfz5_0
                          try clear hfz5_1
                          try clear hfz5_2
                          try clear hfz5_3
                          try clear hfz5_4
                          try clear hfz6_0
                          try clear hfz6_1
                          try clear hfz6_2
                          try clear hfz6_3
                          try clear hfz6_4
                          try clear hfz9_0
                          try clear hfz9_1
                          try clear hfz9_2
                          try clear hfz9_3
                          try clear hfz9_4
                          try clear p2
                          obtain ⟨kq, x97_43, rfl, HA, HJ43, BK106, HB⟩ := hcut
                          cases kq with
                          | zero => exact absurd HA.out (by simp [spec_IsDrawOp.j4])
                          | succ kj43 =>
                            have H := HA.out
                            clear HA
                            simp only [spec_IsDrawOp.j4] at H
                            by_cases c49 : x97_43 = true
                            · subst c49
                              have H1 : (if x3_1 = true then (if a0_1 = 0 then (some (a0_2 == 0)) else (some false)) else (some false)) = some r := by rw [if_pos rfl] at H; exact H
                              clear H
                              have H := H1
                              clear H1
                              by_cases c50 : x3_1 = true
                              · subst c50
                                have H1 : (if a0_1 = 0 then (some (a0_2 == 0)) else (some false)) = some r := by rw [if_pos rfl] at H; exact H
                                clear H
                                have H := H1
                                clear H1
                                by_cases c51 : a0_1 = 0
                                · rw [if_pos c51] at H
                                  have c51b0 : (a0_1 == 0) = true := beq_iff_eq.mpr c51
                                  have c51b1 : (a0_1 != 0) = false := bne_eq_false_iff_eq.mpr c51
                                  clear c51
                                  obtain rfl := Option.some.inj H
                                  have hcz52_0 : wc.cell? ⟨gb106, 0, none⟩ = some (.int .i64 a0_0) := (blk_cell BK106.out 0).trans rfl
                                  have hcz52_1 : wc.cell? ⟨gb106, 1, none⟩ = some (.int .i64 a0_1) := (blk_cell BK106.out 1).trans rfl
                                  have hcz52_2 : wc.cell? ⟨gb106, 2, none⟩ = some (.int .i64 a0_2) := (blk_cell BK106.out 2).trans rfl
                                  have hcz52_3 : wc.cell? ⟨gb106, 3, none⟩ = some (.string a0_3) := (blk_cell BK106.out 3).trans rfl
                                  have hcz52_4 : wc.cell? ⟨gb106, 4, none⟩ = some (.slice A0_4 l0_4.length c0_4) := (blk_cell BK106.out 4).trans rfl
                                  have hfz52_0 := blk_frozen BK106.out 0
                                  have hfz52_1 := blk_frozen BK106.out 1
                                  have hfz52_2 := blk_frozen BK106.out 2
                                  have hfz52_3 := blk_frozen BK106.out 3
                                  have hfz52_4 := blk_frozen BK106.out 4
                                  go_wp2
                                  go_ret
                                  exact ⟨by first | rfl | (simp [errW_none, errW_some] <;> rfl) | (simp [*, errW_none, errW_some] <;> rfl), by repeat (first | (with_reducible first | exact HB.out | apply below_alloc | apply pw_below_drewN | apply below_drew1 | refine below_set ?_ GE106.out) | exact HB.out)⟩
                                · rw [if_neg c51] at H
                                  have c51b0 : (a0_1 == 0) = false := beq_eq_false_iff_ne.mpr c51
                                  have c51b1 : (a0_1 != 0) = true := bne_iff_ne.mpr c51
                                  obtain rfl := Option.some.inj H
                                  have hcz53_0 : wc.cell? ⟨gb106, 0, none⟩ = some (.int .i64 a0_0) := (blk_cell BK106.out 0).trans rfl
                                  have hcz53_1 : wc.cell? ⟨gb106, 1, none⟩ = some (.int .i64 a0_1) := (blk_cell BK106.out 1).trans rfl
                                  have hcz53_2 : wc.cell? ⟨gb106, 2, none⟩ = some (.int .i64 a0_2) := (blk_cell BK106.out 2).trans rfl
                                  have hcz53_3 : wc.cell? ⟨gb106, 3, none⟩ = some (.string a0_3) := (blk_cell BK106.out 3).trans rfl
                                  have hcz53_4 : wc.cell? ⟨gb106, 4, none⟩ = some (.slice A0_4 l0_4.length c0_4) := (blk_cell BK106.out 4).trans rfl
                                  have hfz53_0 := blk_frozen BK106.out 0
                                  have hfz53_1 := blk_frozen BK106.out 1
                                  have hfz53_2 := blk_frozen BK106.out 2
                                  have hfz53_3 := blk_frozen BK106.out 3
                                  have hfz53_4 := blk_frozen BK106.out 4
                                  go_wp2
                                  go_ret
                                  exact ⟨by first | rfl | (simp [errW_none, errW_some] <;> rfl) | (simp [*, errW_none, errW_some] <;> rfl), by repeat (first | (with_reducible first | exact HB.out | apply below_alloc | apply pw_below_drewN | apply below_drew1 | refine below_set ?_ GE106.out) | exact HB.out)⟩
                              · replace c50 := Bool.eq_false_iff.mpr c50
                                subst c50
                                have H1 : (some false) = some r := by rw [if_neg (show ¬ (false = true) by decide)] at H; exact H
                                clear H
                                have H := H1
                                clear H1
                                obtain rfl := Option.some.inj H
                                go_wp2
                                go_ret
                                exact ⟨by first | rfl | (simp [errW_none, errW_some] <;> rfl) | (simp [*, errW_none, errW_some] <;> rfl), by repeat (first | (with_reducible first | exact HB.out | apply below_alloc | apply pw_below_drewN | apply below_drew1 | refine below_set ?_ GE106.out) | exact HB.out)⟩
                            · replace c49 := Bool.eq_false_iff.mpr c49
                              subst c49
                              have H1 : (if a0_0 = 52 then (if a0_3.toList = ([] : List UInt8) then (if a0_1 = 0 then (if a0_2 = 0 then ((spec_drawAttributes.f kj43 l0_4).bind fun t108 => (some t108)) else (some false)) else (some false)) else (some false)) else (if a0_0 = 60 then (if a0_1 = 0 then (if a0_2 = 0 then (if (l0_4.length : Int) = 0 then ((spec_DrawPlain.f kj43 a0_3 20).bind fun t109 => (some t109)) else (some false)) else (some false)) else (some false)) else (if a0_0 = 61 then (if x3_1 = true then (if a0_2 = 0 then (if a0_1 = 13 then (some true) else (if a0_1 = 10 then (some true) else (if a0_1 = 8 then (some true) else (some (a0_1 == 9))))) else (some false)) else (some false)) else (some false)))) = some r := by rw [if_neg (show ¬ (false = true) by decide)] at H; exact H
                              clear H
                              have H := H1
                              clear H1
                              by_cases c54 : a0_0 = 52
                              · rw [if_pos c54] at H
                                have c54b0 : (a0_0 == 52) = true := beq_iff_eq.mpr c54
                                have c54b1 : (a0_0 != 52) = false := bne_eq_false_iff_eq.mpr c54
                                clear c54
                                by_cases c55 : a0_3.toList = ([] : List UInt8)
                                · rw [if_pos c55] at H
                                  have c55b0 : (a0_3.toList == ([] : List UInt8)) = true := beq_iff_eq.mpr c55
                                  have c55b1 : (a0_3.toList != ([] : List UInt8)) = false := bne_eq_false_iff_eq.mpr c55
                                  clear c55
                                  by_cases c56 : a0_1 = 0
                                  · rw [if_pos c56] at H
                                    have c56b0 : (a0_1 == 0) = true := beq_iff_eq.mpr c56
                                    have c56b1 : (a0_1 != 0) = false := bne_eq_false_iff_eq.mpr c56
                                    clear c56
                                    by_cases c57 : a0_2 = 0
                                    · rw [if_pos c57] at H
                                      have c57b0 : (a0_2 == 0) = true := beq_iff_eq.mpr c57
                                      have c57b1 : (a0_2 != 0) = false := bne_eq_false_iff_eq.mpr c57
                                      clear c57
                                      replace H := Option.bind_eq_some_iff.mp H
                                      obtain ⟨t108, A580, H⟩ := H
                                      replace H : (some t108) = some r := H
                                      have A58 := Aside0.mk A580
                                      clear A580
                                      obtain rfl := Option.some.inj H
                                      have hcz59_0 : wc.cell? ⟨gb106, 0, none⟩ = some (.int .i64 a0_0) := (blk_cell BK106.out 0).trans rfl
                                      have hcz59_1 : wc.cell? ⟨gb106, 1, none⟩ = some (.int .i64 a0_1) := (blk_cell BK106.out 1).trans rfl
                                      have hcz59_2 : wc.cell? ⟨gb106, 2, none⟩ = some (.int .i64 a0_2) := (blk_cell BK106.out 2).trans rfl
                                      have hcz59_3 : wc.cell? ⟨gb106, 3, none⟩ = some (.string a0_3) := (blk_cell BK106.out 3).trans rfl
                                      have hcz59_4 : wc.cell? ⟨gb106, 4, none⟩ = some (.slice A0_4 l0_4.length c0_4) := (blk_cell BK106.out 4).trans rfl
                                      have hfz59_0 := blk_frozen BK106.out 0
                                      have hfz59_1 := blk_frozen BK106.out 1
                                      have hfz59_2 := blk_frozen BK106.out 2
                                      have hfz59_3 := blk_frozen BK106.out 3
                                      have hfz59_4 := blk_frozen BK106.out 4
                                      go_wp2_with (first | (go_at_call 82; (with_reducible refine (spec_drawAttributes.calls kj43 _ _ l0_4 t108 _ ?side1 ?side2 A58.out).mono ?_); (case side1 => repeat (first | exact (Kd.C_below HR0_4.out HB.out) | (with_reducible refine Kd.C_alloc ?_ _) | (with_reducible refine Kd.C_drewN ?_ _) | (with_reducible refine Kd.C_drew ?_))); (case side2 => exact HC0_4.out); rintro e w' ⟨rfl, ⟨nd, rfl⟩⟩))
                                      go_ret
                                      exact ⟨by first | rfl | (simp [errW_none, errW_some] <;> rfl) | (simp [*, errW_none, errW_some] <;> rfl), by repeat (first | (with_reducible first | exact HB.out | apply below_alloc | apply pw_below_drewN | apply below_drew1 | refine below_set ?_ GE106.out) | exact HB.out)⟩
                                    · rw [if_neg c57] at H
                                      have c57b0 : (a0_2 == 0) = false := beq_eq_false_iff_ne.mpr c57
                                      have c57b1 : (a0_2 != 0) = true := bne_iff_ne.mpr c57
                                      obtain rfl := Option.some.inj H
                                      have hcz60_0 : wc.cell? ⟨gb106, 0, none⟩ = some (.int .i64 a0_0) := (blk_cell BK106.out 0).trans rfl
                                      have hcz60_1 : wc.cell? ⟨gb106, 1, none⟩ = some (.int .i64 a0_1) := (blk_cell BK106.out 1).trans rfl
                                      have hcz60_2 : wc.cell? ⟨gb106, 2, none⟩ = some (.int .i64 a0_2) := (blk_cell BK106.out 2).trans rfl
                                      have hcz60_3 : wc.cell? ⟨gb106, 3, none⟩ = some (.string a0_3) := (blk_cell BK106.out 3).trans rfl
                                      have hcz60_4 : wc.cell? ⟨gb106, 4, none⟩ = some (.slice A0_4 l0_4.length c0_4) := (blk_cell BK106.out 4).trans rfl
                                      have hfz60_0 := blk_frozen BK106.out 0
                                      have hfz60_1 := blk_frozen BK106.out 1
                                      have hfz60_2 := blk_frozen BK106.out 2
                                      have hfz60_3 := blk_frozen BK106.out 3
                                      have hfz60_4 := blk_frozen BK106.out 4
                                      go_wp2
                                      go_ret
                                      exact ⟨by first | rfl | (simp [errW_none, errW_some] <;> rfl) | (simp [*, errW_none, errW_some] <;> rfl), by repeat (first | (with_reducible first | exact HB.out | apply below_alloc | apply pw_below_drewN | apply below_drew1 | refine below_set ?_ GE106.out) | exact HB.out)⟩
                                  · rw [if_neg c56] at H
                                    have c56b0 : (a0_1 == 0) = false := beq_eq_false_iff_ne.mpr c56
                                    have c56b1 : (a0_1 != 0) = true := bne_iff_ne.mpr c56
                                    obtain rfl := Option.some.inj H
                                    have hcz61_0 : wc.cell? ⟨gb106, 0, none⟩ = some (.int .i64 a0_0) := (blk_cell BK106.out 0).trans rfl
                                    have hcz61_1 : wc.cell? ⟨gb106, 1, none⟩ = some (.int .i64 a0_1) := (blk_cell BK106.out 1).trans rfl
                                    have hcz61_2 : wc.cell? ⟨gb106, 2, none⟩ = some (.int .i64 a0_2) := (blk_cell BK106.out 2).trans rfl
                                    have hcz61_3 : wc.cell? ⟨gb106, 3, none⟩ = some (.string a0_3) := (blk_cell BK106.out 3).trans rfl
                                    have hcz61_4 : wc.cell? ⟨gb106, 4, none⟩ = some (.slice A0_4 l0_4.length c0_4) := (blk_cell BK106.out 4).trans rfl
                                    have hfz61_0 := blk_frozen BK106.out 0
                                    have hfz61_1 := blk_frozen BK106.out 1
                                    have hfz61_2 := blk_frozen BK106.out 2
                                    have hfz61_3 := blk_frozen BK106.out 3
                                    have hfz61_4 := blk_frozen BK106.out 4
                                    go_wp2
                                    go_ret
                                    exact ⟨by first | rfl | (simp [errW_none, errW_some] <;> rfl) | (simp [*, errW_none, errW_some] <;> rfl), by repeat (first | (with_reducible first | exact HB.out | apply below_alloc | apply pw_below_drewN | apply below_drew1 | refine below_set ?_ GE106.out) | exact HB.out)⟩
                                · rw [if_neg c55] at H
                                  have c55b0 : (a0_3.toList == ([] : List UInt8)) = false := beq_eq_false_iff_ne.mpr c55
                                  have c55b1 : (a0_3.toList != ([] : List UInt8)) = true := bne_iff_ne.mpr c55
                                  obtain rfl := Option.some.inj H
                                  have hcz62_0 : wc.cell? ⟨gb106, 0, none⟩ = some (.int .i64 a0_0) := (blk_cell BK106.out 0).trans rfl
                                  have hcz62_1 : wc.cell? ⟨gb106, 1, none⟩ = some (.int .i64 a0_1) := (blk_cell BK106.out 1).trans rfl
                                  have hcz62_2 : wc.cell? ⟨gb106, 2, none⟩ = some (.int .i64 a0_2) := (blk_cell BK106.out 2).trans rfl
                                  have hcz62_3 : wc.cell? ⟨gb106, 3, none⟩ = some (.string a0_3) := (blk_cell BK106.out 3).trans rfl
                                  have hcz62_4 : wc.cell? ⟨gb106, 4, none⟩ = some (.slice A0_4 l0_4.length c0_4) := (blk_cell BK106.out 4).trans rfl
                                  have hfz62_0 := blk_frozen BK106.out 0
                                  have hfz62_1 := blk_frozen BK106.out 1
                                  have hfz62_2 := blk_frozen BK106.out 2
                                  have hfz62_3 := blk_frozen BK106.out 3
                                  have hfz62_4 := blk_frozen BK106.out 4
                                  go_wp2
                                  go_ret
                                  exact ⟨by first | rfl | (simp [errW_none, errW_some] <;> rfl) | (simp [*, errW_none, errW_some] <;> rfl), by repeat (first | (with_reducible first | exact HB.out | apply below_alloc | apply pw_below_drewN | apply below_drew1 | refine below_set ?_ GE106.out) | exact HB.out)⟩
                              · rw [if_neg c54] at H
                                have c54b0 : (a0_0 == 52) = false := beq_eq_false_iff_ne.mpr c54
                                have c54b1 : (a0_0 != 52) = true := bne_iff_ne.mpr c54
                                by_cases c63 : a0_0 = 60
                                · rw [if_pos c63] at H
                                  have c63b0 : (a0_0 == 60) = true := beq_iff_eq.mpr c63
                                  have c63b1 : (a0_0 != 60) = false := bne_eq_false_iff_eq.mpr c63
                                  clear c63
                                  by_cases c64 : a0_1 = 0
                                  · rw [if_pos c64] at H
                                    have c64b0 : (a0_1 == 0) = true := beq_iff_eq.mpr c64
                                    have c64b1 : (a0_1 != 0) = false := bne_eq_false_iff_eq.mpr c64
                                    clear c64
                                    by_cases c65 : a0_2 = 0
                                    · rw [if_pos c65] at H
                                      have c65b0 : (a0_2 == 0) = true := beq_iff_eq.mpr c65
                                      have c65b1 : (a0_2 != 0) = false := bne_eq_false_iff_eq.mpr c65
                                      clear c65
                                      by_cases c66 : (l0_4.length : Int) = 0
                                      · rw [if_pos c66] at H
                                        have c66b0 : ((l0_4.length : Int) == 0) = true := beq_iff_eq.mpr c66
                                        have c66b1 : ((l0_4.length : Int) != 0) = false := bne_eq_false_iff_eq.mpr c66
                                        clear c66
                                        replace H := Option.bind_eq_some_iff.mp H
                                        obtain ⟨t109, A670, H⟩ := H
                                        replace H : (some t109) = some r := H
                                        have A67 := Aside0.mk A670
                                        clear A670
                                        obtain rfl := Option.some.inj H
                                        have hcz68_0 : wc.cell? ⟨gb106, 0, none⟩ = some (.int .i64 a0_0) := (blk_cell BK106.out 0).trans rfl
                                        have hcz68_1 : wc.cell? ⟨gb106, 1, none⟩ = some (.int .i64 a0_1) := (blk_cell BK106.out 1).trans rfl
                                        have hcz68_2 : wc.cell? ⟨gb106, 2, none⟩ = some (.int .i64 a0_2) := (blk_cell BK106.out 2).trans rfl
                                        have hcz68_3 : wc.cell? ⟨gb106, 3, none⟩ = some (.string a0_3) := (blk_cell BK106.out 3).trans rfl
                                        have hcz68_4 : wc.cell? ⟨gb106, 4, none⟩ = some (.slice A0_4 l0_4.length c0_4) := (blk_cell BK106.out 4).trans rfl
                                        have hfz68_0 := blk_frozen BK106.out 0
                                        have hfz68_1 := blk_frozen BK106.out 1
                                        have hfz68_2 := blk_frozen BK106.out 2
                                        have hfz68_3 := blk_frozen BK106.out 3
                                        have hfz68_4 := blk_frozen BK106.out 4
                                        go_wp2_with (first | (go_at_call 83; (with_reducible refine (spec_DrawPlain.calls kj43 a0_3 20 t109 _ A67.out).mono ?_); rintro e w' ⟨rfl, ⟨nd, rfl⟩⟩))
                                        go_ret
                                        exact ⟨by first | rfl | (simp [errW_none, errW_some] <;> rfl) | (simp [*, errW_none, errW_some] <;> rfl), by repeat (first | (with_reducible first | exact HB.out | apply below_alloc | apply pw_below_drewN | apply below_drew1 | refine below_set ?_ GE106.out) | exact HB.out)⟩
                                      · rw [if_neg c66] at H
                                        have c66b0 : ((l0_4.length : Int) == 0) = false := beq_eq_false_iff_ne.mpr c66
                                        have c66b1 : ((l0_4.length : Int) != 0) = true := bne_iff_ne.mpr c66
                                        have c66b2 : ¬ (l0_4 = []) := fun h_ => c66 (by rw [h_]; rfl)
                                        obtain rfl := Option.some.inj H
                                        have hcz69_0 : wc.cell? ⟨gb106, 0, none⟩ = some (.int .i64 a0_0) := (blk_cell BK106.out 0).trans rfl
                                        have hcz69_1 : wc.cell? ⟨gb106, 1, none⟩ = some (.int .i64 a0_1) := (blk_cell BK106.out 1).trans rfl
                                        have hcz69_2 : wc.cell? ⟨gb106, 2, none⟩ = some (.int .i64 a0_2) := (blk_cell BK106.out 2).trans rfl
                                        have hcz69_3 : wc.cell? ⟨gb106, 3, none⟩ = some (.string a0_3) := (blk_cell BK106.out 3).trans rfl
                                        have hcz69_4 : wc.cell? ⟨gb106, 4, none⟩ = some (.slice A0_4 l0_4.length c0_4) := (blk_cell BK106.out 4).trans rfl
                                        have hfz69_0 := blk_frozen BK106.out 0
                                        have hfz69_1 := blk_frozen BK106.out 1
                                        have hfz69_2 := blk_frozen BK106.out 2
                                        have hfz69_3 := blk_frozen BK106.out 3
                                        have hfz69_4 := blk_frozen BK106.out 4
                                        go_wp2
                                        go_ret
                                        exact ⟨by first | rfl | (simp [errW_none, errW_some] <;> rfl) | (simp [*, errW_none, errW_some] <;> rfl), by repeat (first | (with_reducible first | exact HB.out | apply below_alloc | apply pw_below_drewN | apply below_drew1 | refine below_set ?_ GE106.out) | exact HB.out)⟩
                                    · rw [if_neg c65] at H
                                      have c65b0 : (a0_2 == 0) = false := beq_eq_false_iff_ne.mpr c65
                                      have c65b1 : (a0_2 != 0) = true := bne_iff_ne.mpr c65
                                      obtain rfl := Option.some.inj H
                                      have hcz70_0 : wc.cell? ⟨gb106, 0, none⟩ = some (.int .i64 a0_0) := (blk_cell BK106.out 0).trans rfl
                                      have hcz70_1 : wc.cell? ⟨gb106, 1, none⟩ = some (.int .i64 a0_1) := (blk_cell BK106.out 1).trans rfl
                                      have hcz70_2 : wc.cell? ⟨gb106, 2, none⟩ = some (.int .i64 a0_2) := (blk_cell BK106.out 2).trans rfl
                                      have hcz70_3 : wc.cell? ⟨gb106, 3, none⟩ = some (.string a0_3) := (blk_cell BK106.out 3).trans rfl
                                      have hcz70_4 : wc.cell? ⟨gb106, 4, none⟩ = some (.slice A0_4 l0_4.length c0_4) := (blk_cell BK106.out 4).trans rfl
                                      have hfz70_0 := blk_frozen BK106.out 0
                                      have hfz70_1 := blk_frozen BK106.out 1
                                      have hfz70_2 := blk_frozen BK106.out 2
                                      have hfz70_3 := blk_frozen BK106.out 3
                                      have hfz70_4 := blk_frozen BK106.out 4
                                      go_wp2
                                      go_ret
                                      exact ⟨by first | rfl | (simp [errW_none, errW_some] <;> rfl) | (simp [*, errW_none, errW_some] <;> rfl), by repeat (first | (with_reducible first | exact HB.out | apply below_alloc | apply pw_below_drewN | apply below_drew1 | refine below_set ?_ GE106.out) | exact HB.out)⟩
                                  · rw [if_neg c64] at H
                                    have c64b0 : (a0_1 == 0) = false := beq_eq_false_iff_ne.mpr c64
                                    have c64b1 : (a0_1 != 0) = true := bne_iff_ne.mpr c64
                                    obtain rfl := Option.some.inj H
                                    have hcz71_0 : wc.cell? ⟨gb106, 0, none⟩ = some (.int .i64 a0_0) := (blk_cell BK106.out 0).trans rfl
                                    have hcz71_1 : wc.cell? ⟨gb106, 1, none⟩ = some (.int .i64 a0_1) := (blk_cell BK106.out 1).trans rfl
                                    have hcz71_2 : wc.cell? ⟨gb106, 2, none⟩ = some (.int .i64 a0_2) := (blk_cell BK106.out 2).trans rfl
                                    have hcz71_3 : wc.cell? ⟨gb106, 3, none⟩ = some (.string a0_3) := (blk_cell BK106.out 3).trans rfl
                                    have hcz71_4 : wc.cell? ⟨gb106, 4, none⟩ = some (.slice A0_4 l0_4.length c0_4) := (blk_cell BK106.out 4).trans rfl
                                    have hfz71_0 := blk_frozen BK106.out 0
                                    have hfz71_1 := blk_frozen BK106.out 1
                                    have hfz71_2 := blk_frozen BK106.out 2
                                    have hfz71_3 := blk_frozen BK106.out 3
                                    have hfz71_4 := blk_frozen BK106.out 4
                                    go_wp2
                                    go_ret
                                    exact ⟨by first | rfl | (simp [errW_none, errW_some] <;> rfl) | (simp [*, errW_none, errW_some] <;> rfl), by repeat (first | (with_reducible first | exact HB.out | apply below_alloc | apply pw_below_drewN | apply below_drew1 | refine below_set ?_ GE106.out) | exact HB.out)⟩
                                · rw [if_neg c63] at H
                                  have c63b0 : (a0_0 == 60) = false := beq_eq_false_iff_ne.mpr c63
                                  have c63b1 : (a0_0 != 60) = true := bne_iff_ne.mpr c63
                                  by_cases c72 : a0_0 = 61
                                  · rw [if_pos c72] at H
                                    have c72b0 : (a0_0 == 61) = true := beq_iff_eq.mpr c72
                                    have c72b1 : (a0_0 != 61) = false := bne_eq_false_iff_eq.mpr c72
                                    clear c72
                                    by_cases c73 : x3_1 = true
                                    · subst c73
                                      have H1 : (if a0_2 = 0 then (if a0_1 = 13 then (some true) else (if a0_1 = 10 then (some true) else (if a0_1 = 8 then (some true) else (some (a0_1 == 9))))) else (some false)) = some r := by rw [if_pos rfl] at H; exact H
                                      clear H
                                      have H := H1
                                      clear H1
                                      by_cases c74 : a0_2 = 0
                                      · rw [if_pos c74] at H
                                        have c74b0 : (a0_2 == 0) = true := beq_iff_eq.mpr c74
                                        have c74b1 : (a0_2 != 0) = false := bne_eq_false_iff_eq.mpr c74
                                        clear c74
                                        by_cases c75 : a0_1 = 13
                                        · rw [if_pos c75] at H
                                          have c75b0 : (a0_1 == 13) = true := beq_iff_eq.mpr c75
                                          have c75b1 : (a0_1 != 13) = false := bne_eq_false_iff_eq.mpr c75
                                          clear c75
                                          obtain rfl := Option.some.inj H
                                          have hcz76_0 : wc.cell? ⟨gb106, 0, none⟩ = some (.int .i64 a0_0) := (blk_cell BK106.out 0).trans rfl
                                          have hcz76_1 : wc.cell? ⟨gb106, 1, none⟩ = some (.int .i64 a0_1) := (blk_cell BK106.out 1).trans rfl
                                          have hcz76_2 : wc.cell? ⟨gb106, 2, none⟩ = some (.int .i64 a0_2) := (blk_cell BK106.out 2).trans rfl
                                          have hcz76_3 : wc.cell? ⟨gb106, 3, none⟩ = some (.string a0_3) := (blk_cell BK106.out 3).trans rfl
                                          have hcz76_4 : wc.cell? ⟨gb106, 4, none⟩ = some (.slice A0_4 l0_4.length c0_4) := (blk_cell BK106.out 4).trans rfl
                                          have hfz76_0 := blk_frozen BK106.out 0
                                          have hfz76_1 := blk_frozen BK106.out 1
                                          have hfz76_2 := blk_frozen BK106.out 2
                                          have hfz76_3 := blk_frozen BK106.out 3
                                          have hfz76_4 := blk_frozen BK106.out 4
                                          go_wp2
                                          go_ret
                                          exact ⟨by first | rfl | (simp [errW_none, errW_some] <;> rfl) | (simp [*, errW_none, errW_some] <;> rfl), by repeat (first | (with_reducible first | exact HB.out | apply below_alloc | apply pw_below_drewN | apply below_drew1 | refine below_set ?_ GE106.out) | exact HB.out)⟩
                                        · rw [if_neg c75] at H
                                          have c75b0 : (a0_1 == 13) = false := beq_eq_false_iff_ne.mpr c75
                                          have c75b1 : (a0_1 != 13) = true := bne_iff_ne.mpr c75
                                          by_cases c77 : a0_1 = 10
                                          · rw [if_pos c77] at H
                                            have c77b0 : (a0_1 == 10) = true := beq_iff_eq.mpr c77
                                            have c77b1 : (a0_1 != 10) = false := bne_eq_false_iff_eq.mpr c77
                                            clear c77
                                            obtain rfl := Option.some.inj H
                                            have hcz78_0 : wc.cell? ⟨gb106, 0, none⟩ = some (.int .i64 a0_0) := (blk_cell BK106.out 0).trans rfl
                                            have hcz78_1 : wc.cell? ⟨gb106, 1, none⟩ = some (.int .i64 a0_1) := (blk_cell BK106.out 1).trans rfl
                                            have hcz78_2 : wc.cell? ⟨gb106, 2, none⟩ = some (.int .i64 a0_2) := (blk_cell BK106.out 2).trans rfl
                                            have hcz78_3 : wc.cell? ⟨gb106, 3, none⟩ = some (.string a0_3) := (blk_cell BK106.out 3).trans rfl
                                            have hcz78_4 : wc.cell? ⟨gb106, 4, none⟩ = some (.slice A0_4 l0_4.length c0_4) := (blk_cell BK106.out 4).trans rfl
                                            have hfz78_0 := blk_frozen BK106.out 0
                                            have hfz78_1 := blk_frozen BK106.out 1
                                            have hfz78_2 := blk_frozen BK106.out 2
                                            have hfz78_3 := blk_frozen BK106.out 3
                                            have hfz78_4 := blk_frozen BK106.out 4
                                            go_wp2
                                            go_ret
                                            exact ⟨by first | rfl | (simp [errW_none, errW_some] <;> rfl) | (simp [*, errW_none, errW_some] <;> rfl), by repeat (first | (with_reducible first | exact HB.out | apply below_alloc | apply pw_below_drewN | apply below_drew1 | refine below_set ?_ GE106.out) | exact HB.out)⟩
                                          · rw [if_neg c77] at H
                                            have c77b0 : (a0_1 == 10) = false := beq_eq_false_iff_ne.mpr c77
                                            have c77b1 : (a0_1 != 10) = true := bne_iff_ne.mpr c77
                                            by_cases c79 : a0_1 = 8
                                            · rw [if_pos c79] at H
                                              have c79b0 : (a0_1 == 8) = true := beq_iff_eq.mpr c79
                                              have c79b1 : (a0_1 != 8) = false := bne_eq_false_iff_eq.mpr c79
                                              clear c79
                                              obtain rfl := Option.some.inj H
                                              have hcz80_0 : wc.cell? ⟨gb106, 0, none⟩ = some (.int .i64 a0_0) := (blk_cell BK106.out 0).trans rfl
                                              have hcz80_1 : wc.cell? ⟨gb106, 1, none⟩ = some (.int .i64 a0_1) := (blk_cell BK106.out 1).trans rfl
                                              have hcz80_2 : wc.cell? ⟨gb106, 2, none⟩ = some (.int .i64 a0_2) := (blk_cell BK106.out 2).trans rfl
                                              have hcz80_3 : wc.cell? ⟨gb106, 3, none⟩ = some (.string a0_3) := (blk_cell BK106.out 3).trans rfl
                                              have hcz80_4 : wc.cell? ⟨gb106, 4, none⟩ = some (.slice A0_4 l0_4.length c0_4) := (blk_cell BK106.out 4).trans rfl
                                              have hfz80_0 := blk_frozen BK106.out 0
                                              have hfz80_1 := blk_frozen BK106.out 1
                                              have hfz80_2 := blk_frozen BK106.out 2
                                              have hfz80_3 := blk_frozen BK106.out 3
                                              have hfz80_4 := blk_frozen BK106.out 4
                                              go_wp2
                                              go_ret
                                              exact ⟨by first | rfl | (simp [errW_none, errW_some] <;> rfl) | (simp [*, errW_none, errW_some] <;> rfl), by repeat (first | (with_reducible first | exact HB.out | apply below_alloc | apply pw_below_drewN | apply below_drew1 | refine below_set ?_ GE106.out) | exact HB.out)⟩
                                            · rw [if_neg c79] at H
                                              have c79b0 : (a0_1 == 8) = false := beq_eq_false_iff_ne.mpr c79
                                              have c79b1 : (a0_1 != 8) = true := bne_iff_ne.mpr c79
                                              obtain rfl := Option.some.inj H
                                              have hcz81_0 : wc.cell? ⟨gb106, 0, none⟩ = some (.int .i64 a0_0) := (blk_cell BK106.out 0).trans rfl
                                              have hcz81_1 : wc.cell? ⟨gb106, 1, none⟩ = some (.int .i64 a0_1) := (blk_cell BK106.out 1).trans rfl
                                              have hcz81_2 : wc.cell? ⟨gb106, 2, none⟩ = some (.int .i64 a0_2) := (blk_cell BK106.out 2).trans rfl
                                              have hcz81_3 : wc.cell? ⟨gb106, 3, none⟩ = some (.string a0_3) := (blk_cell BK106.out 3).trans rfl
                                              have hcz81_4 : wc.cell? ⟨gb106, 4, none⟩ = some (.slice A0_4 l0_4.length c0_4) := (blk_cell BK106.out 4).trans rfl
                                              have hfz81_0 := blk_frozen BK106.out 0
                                              have hfz81_1 := blk_frozen BK106.out 1
                                              have hfz81_2 := blk_frozen BK106.out 2
                                              have hfz81_3 := blk_frozen BK106.out 3
                                              have hfz81_4 := blk_frozen BK106.out 4
                                              go_wp2
                                              go_ret
                                              exact ⟨by first | rfl | (simp [errW_none, errW_some] <;> rfl) | (simp [*, errW_none, errW_some] <;> rfl), by repeat (first | (with_reducible first | exact HB.out | apply below_alloc | apply pw_below_drewN | apply below_drew1 | refine below_set ?_ GE106.out) | exact HB.out)⟩
                                      · rw [if_neg c74] at H
                                        have c74b0 : (a0_2 == 0) = false := beq_eq_false_iff_ne.mpr c74
                                        have c74b1 : (a0_2 != 0) = true := bne_iff_ne.mpr c74
                                        obtain rfl := Option.some.inj H
                                        have hcz82_0 : wc.cell? ⟨gb106, 0, none⟩ = some (.int .i64 a0_0) := (blk_cell BK106.out 0).trans rfl
                                        have hcz82_1 : wc.cell? ⟨gb106, 1, none⟩ = some (.int .i64 a0_1) := (blk_cell BK106.out 1).trans rfl
                                        have hcz82_2 : wc.cell? ⟨gb106, 2, none⟩ = some (.int .i64 a0_2) := (blk_cell BK106.out 2).trans rfl
                                        have hcz82_3 : wc.cell? ⟨gb106, 3, none⟩ = some (.string a0_3) := (blk_cell BK106.out 3).trans rfl
                                        have hcz82_4 : wc.cell? ⟨gb106, 4, none⟩ = some (.slice A0_4 l0_4.length c0_4) := (blk_cell BK106.out 4).trans rfl
                                        have hfz82_0 := blk_frozen BK106.out 0
                                        have hfz82_1 := blk_frozen BK106.out 1
                                        have hfz82_2 := blk_frozen BK106.out 2
                                        have hfz82_3 := blk_frozen BK106.out 3
                                        have hfz82_4 := blk_frozen BK106.out 4
                                        go_wp2
                                        go_ret
                                        exact ⟨by first | rfl | (simp [errW_none, errW_some] <;> rfl) | (simp [*, errW_none, errW_some] <;> rfl), by repeat (first | (with_reducible first | exact HB.out | apply below_alloc | apply pw_below_drewN | apply below_drew1 | refine below_set ?_ GE106.out) | exact HB.out)⟩
                                    · replace c73 := Bool.eq_false_iff.mpr c73
                                      subst c73
                                      have H1 : (some false) = some r := by rw [if_neg (show ¬ (false = true) by decide)] at H; exact H
                                      clear H
                                      have H := H1
                                      clear H1
                                      obtain rfl := Option.some.inj H
                                      have hcz83_0 : wc.cell? ⟨gb106, 0, none⟩ = some (.int .i64 a0_0) := (blk_cell BK106.out 0).trans rfl
                                      have hcz83_1 : wc.cell? ⟨gb106, 1, none⟩ = some (.int .i64 a0_1) := (blk_cell BK106.out 1).trans rfl
                                      have hcz83_2 : wc.cell? ⟨gb106, 2, none⟩ = some (.int .i64 a0_2) := (blk_cell BK106.out 2).trans rfl
                                      have hcz83_3 : wc.cell? ⟨gb106, 3, none⟩ = some (.string a0_3) := (blk_cell BK106.out 3).trans rfl
                                      have hcz83_4 : wc.cell? ⟨gb106, 4, none⟩ = some (.slice A0_4 l0_4.length c0_4) := (blk_cell BK106.out 4).trans rfl
                                      have hfz83_0 := blk_frozen BK106.out 0
                                      have hfz83_1 := blk_frozen BK106.out 1
                                      have hfz83_2 := blk_frozen BK106.out 2
                                      have hfz83_3 := blk_frozen BK106.out 3
                                      have hfz83_4 := blk_frozen BK106.out 4
                                      go_wp2
                                      go_ret
                                      exact ⟨by first | rfl | (simp [errW_none, errW_some] <;> rfl) | (simp [*, errW_none, errW_some] <;> rfl), by repeat (first | (with_reducible first | exact HB.out | apply below_alloc | apply pw_below_drewN | apply below_drew1 | refine below_set ?_ GE106.out) | exact HB.out)⟩
                                  · rw [if_neg c72] at H
                                    have c72b0 : (a0_0 == 61) = false := beq_eq_false_iff_ne.mpr c72
                                    have c72b1 : (a0_0 != 61) = true := bne_iff_ne.mpr c72
                                    obtain rfl := Option.some.inj H
                                    have hcz84_0 : wc.cell? ⟨gb106, 0, none⟩ = some (.int .i64 a0_0) := (blk_cell BK106.out 0).trans rfl
                                    have hcz84_1 : wc.cell? ⟨gb106, 1, none⟩ = some (.int .i64 a0_1) := (blk_cell BK106.out 1).trans rfl
                                    have hcz84_2 : wc.cell? ⟨gb106, 2, none⟩ = some (.int .i64 a0_2) := (blk_cell BK106.out 2).trans rfl
                                    have hcz84_3 : wc.cell? ⟨gb106, 3, none⟩ = some (.string a0_3) := (blk_cell BK106.out 3).trans rfl
                                    have hcz84_4 : wc.cell? ⟨gb106, 4, none⟩ = some (.slice A0_4 l0_4.length c0_4) := (blk_cell BK106.out 4).trans rfl
                                    have hfz84_0 := blk_frozen BK106.out 0
                                    have hfz84_1 := blk_frozen BK106.out 1
                                    have hfz84_2 := blk_frozen BK106.out 2
                                    have hfz84_3 := blk_frozen BK106.out 3
                                    have hfz84_4 := blk_frozen BK106.out 4
                                    go_wp2
                                    go_ret
                                    exact ⟨by first | rfl | (simp [errW_none, errW_some] <;> rfl) | (simp [*, errW_none, errW_some] <;> rfl), by repeat (first | (with_reducible first | exact HB.out | apply below_alloc | apply pw_below_drewN | apply below_drew1 | refine below_set ?_ GE106.out) | exact HB.out)⟩
end Go.Proofs.YtjkpelaeelihhaaGreatDoorRR.Y
end
