/- Texts of this claim, joined: Y82. Of each, what the claim uses. -/
import Derived.Test.YtjkjnhcnmjknmaaGreatDoorKGraphicsb
section
namespace Go.Proofs.YtjkjnhcnmjknmaaGreatDoor.Y
open Go.RowKit Go.Proofs.YtjkjnhcnmjknmaaGreatDoorW.PrintWords Go.Proofs.YtjkjnhcnmjknmaaGreatDoorW.PrintLast Go.Proofs.YtjkjnhcnmjknmaaGreatDoorW.PrintMore
attribute [local go_sem] max2_int min2_int max_two min_two max_three min_three max_four min_four   -- for this text's walks alone
set_option linter.unusedVariables false
set_option linter.unusedSimpArgs false
set_option maxHeartbeats 8000000 in
set_option maxRecDepth 100000 in
theorem laws_FnDrawGraphics.calls (k : Nat) (a0 : ByteArray) (A1 : Option Addr) (c1 : Nat) (l1 : List ByteArray) (a2_0 : Int) (a2_1 : Int) (a2_2 : Int) (r : Bool) (w : World) (hT : XTab w) (hr1 : Kd.C Kd.string w A1 l1.length l1) (hc1 : l1.length ≤ c1) (h : laws_FnDrawGraphics.f k a0 l1 a2_0 a2_1 a2_2 = some r) :
    Calls Tryz.prog 5 #[.string a0, .slice A1 l1.length c1, .agg #[.int .u8 a2_0, .int .u8 a2_1, .int .u8 a2_2]] w fun e w' => e = .returned (.bool r) ∧ Below w.heap.size w w' := by
  have hu50 := Tryz.underlying50
  have HT := Aside0.mk hT
  clear hT
  have HR1 := Aside0.mk hr1
  have HC1 := Aside0.mk hc1
  clear hr1 hc1
  have HB := Aside0.mk (Below.refl w.heap.size w)
  have H : (if (a0.size : Int) > 2147483647 then (laws_FnDrawGraphics.j0 k a0 l1 true a2_0 a2_1 a2_2) else ((laws_zzFits1.f k l1).bind fun t332 => (laws_FnDrawGraphics.j0 k a0 l1 (!t332) a2_0 a2_1 a2_2))) = some r := h
  clear h
  have HC4 := Aside0.mk H
  clear H
  go_enter Tryz.func5, Tryz.ntmps5
  go_upto_region 1 with (first | ((with_reducible refine gate_dst (N := 5) rfl ?_); (try (refine gate_guard (by rfl) ?_; dsimp only)); refine box_event ?hg (N := 5) ?hd (cs := #[.int .u8 a2_0, .int .u8 a2_1, .int .u8 a2_2]) (t := 50) ?hr ?_; (case hd => rfl); (case hg => rfl); (case hr => first | (go_simp; done) | (go_simp; rfl)); intro gb331 hg w5 hbox hb; have n0_ := Aside0.mk (below_step (by repeat (first | (with_reducible first | exact HB.out | apply below_alloc | apply pw_below_drewN | apply below_drew1) | exact HB.out)) hb); have n1_ := Aside0.mk (hbox); have n2_ := Aside0.mk ((by rw [hg]; exact (below_size (by repeat (first | (with_reducible first | exact HB.out | apply below_alloc | apply pw_below_drewN | apply below_drew1) | exact HB.out))) : w.heap.size ≤ gb331)); have n3_ := Aside0.mk ((by rw [hg]; exact (below_size (by repeat (first | (with_reducible first | exact HB.out | apply below_alloc | apply pw_below_drewN | apply below_drew1) | exact HB.out))) : w.heap.size ≤ gb331)); clear HB; have HB := n0_; have BK331 := n1_; have GW331 := n2_; have GE331 := n3_; clear n0_ n1_ n2_ n3_; clear hb hbox hg))
  (try simp only [Act.put, List.setIfInBounds_toArray, List.set_cons_zero, List.set_cons_succ])
  go_cut [21] (fun v21 wc => ∃ (kq : Nat) (x21_3 : Bool), v21 = .bool x21_3 ∧ Aside0 (laws_FnDrawGraphics.j0 kq a0 l1 x21_3 a2_0 a2_1 a2_2 = some r) ∧ Aside0 (kq ≤ k) ∧ Aside0 (wc.heap[gb331]? = some (.cells #[.int .u8 a2_0, .int .u8 a2_1, .int .u8 a2_2] 50 (0, 0))) ∧ Aside0 (Below w.heap.size w wc))
  case first =>
    have H := HC4.out
    clear HC4
    by_cases c6 : (a0.size : Int) > 2147483647
    · rw [if_pos c6] at H
      have c6b0 : decide (2147483647 < (a0.size : Int)) = true := decide_eq_true c6
      have c6b1 : decide (2147483647 < a0.size) = true := decide_eq_true (by omega)
      clear c6
      (first | rw [c6b0] | (simp only [i64_w, i32_w]; rw [c6b0]) | skip)
      have H' := Aside0.mk H
      clear H
      go_wp2
      go_meet
      case rel => exact ⟨_, (true), (by first | rfl | (simp; done) | (simp [*]; done)), H', ⟨by first | omega | exact Nat.le_refl _⟩, ⟨by (with_reducible repeat (first | refine blk_drewN ?_ _ | refine blk_drew ?_ | refine blk_alloc ?_ _)); exact BK331.out⟩, ⟨by repeat (first | (with_reducible first | exact HB.out | apply below_alloc | apply pw_below_drewN | apply below_drew1 | refine below_set ?_ GE331.out) | exact HB.out)⟩⟩
    · rw [if_neg c6] at H
      have c6b0 : decide (2147483647 < (a0.size : Int)) = false := decide_eq_false c6
      have c6b1 : decide (2147483647 < a0.size) = false := decide_eq_false (by omega)
      clear c6
      (first | rw [c6b0] | (simp only [i64_w, i32_w]; rw [c6b0]) | skip)
      replace H := Option.bind_eq_some_iff.mp H
      obtain ⟨t332, A70, H⟩ := H
      replace H : (laws_FnDrawGraphics.j0 k a0 l1 (!t332) a2_0 a2_1 a2_2) = some r := H
      have A7 := Aside0.mk A70
      clear A70
      have H' := Aside0.mk H
      clear H
      go_wp2_with (first | (go_at_call 21; (with_reducible refine (laws_zzFits1.calls k _ _ l1 t332 _ ?side1 ?side2 A7.out).mono ?_); (case side1 => repeat (first | exact (Kd.C_below HR1.out HB.out) | (with_reducible refine Kd.C_alloc ?_ _) | (with_reducible refine Kd.C_drewN ?_ _) | (with_reducible refine Kd.C_drew ?_))); (case side2 => exact HC1.out); rintro e w' ⟨rfl, ⟨nd, rfl⟩⟩))
      go_meet
      case rel => exact ⟨_, (!t332), (by first | rfl | (simp; done) | (simp [*]; done)), H', ⟨by first | omega | exact Nat.le_refl _⟩, ⟨by (with_reducible repeat (first | refine blk_drewN ?_ _ | refine blk_drew ?_ | refine blk_alloc ?_ _)); exact BK331.out⟩, ⟨by repeat (first | (with_reducible first | exact HB.out | apply below_alloc | apply pw_below_drewN | apply below_drew1 | refine below_set ?_ GE331.out) | exact HB.out)⟩⟩
  case rest => as_aux_lemma =>
    clear HC4
    try clear c1
    try clear p2
    try clear c5
    try clear c6
    try clear c6b0
    try clear c6b1
    obtain ⟨kq, x21_3, rfl, HA, HJ3, BK331, HB⟩ := hcut
    cases kq with
    | zero => exact absurd HA.out (by simp [laws_FnDrawGraphics.j0])
    | succ kj3 =>
      have H := HA.out
      clear HA
      simp only [laws_FnDrawGraphics.j0] at H
      by_cases c8 : x21_3 = true
      · subst c8
        have H1 : (some true) = some r := by rw [if_pos rfl] at H; exact H
        clear H
        have H := H1
        clear H1
        obtain rfl := Option.some.inj H
        go_wp2
        go_ret
        exact ⟨by first | rfl | (simp [errW_none, errW_some] <;> rfl) | (simp [*, errW_none, errW_some] <;> rfl), by repeat (first | (with_reducible first | exact HB.out | apply below_alloc | apply pw_below_drewN | apply below_drew1 | refine below_set ?_ GE331.out) | exact HB.out)⟩
      · replace c8 := Bool.eq_false_iff.mpr c8
        subst c8
        have H1 : ((spec_DrawWord.f kj3 a0 60).bind fun t333 => (if t333 = true then (laws_FnDrawGraphics.j1 kj3 a0 l1 (decide ((l1.length : Int) > 4)) a2_0 a2_1 a2_2) else (laws_FnDrawGraphics.j1 kj3 a0 l1 true a2_0 a2_1 a2_2))) = some r := by rw [if_neg (show ¬ (false = true) by decide)] at H; exact H
        clear H
        have H := H1
        clear H1
        have HC9 := Aside0.mk H
        clear H
        go_upto_region 3 with (fail)
        go_cut [29] (fun v29 wc => ∃ (kq : Nat) (x29_8 : Bool), v29 = .bool x29_8 ∧ Aside0 (laws_FnDrawGraphics.j1 kq a0 l1 x29_8 a2_0 a2_1 a2_2 = some r) ∧ Aside0 (kq ≤ kj3) ∧ Aside0 (wc.heap[gb331]? = some (.cells #[.int .u8 a2_0, .int .u8 a2_1, .int .u8 a2_2] 50 (0, 0))) ∧ Aside0 (Below w.heap.size w wc))
        case first =>
          have H := HC9.out
          clear HC9
          replace H := Option.bind_eq_some_iff.mp H
          obtain ⟨t333, A100, H⟩ := H
          replace H : (if t333 = true then (laws_FnDrawGraphics.j1 kj3 a0 l1 (decide ((l1.length : Int) > 4)) a2_0 a2_1 a2_2) else (laws_FnDrawGraphics.j1 kj3 a0 l1 true a2_0 a2_1 a2_2)) = some r := H
          have A10 := Aside0.mk A100
          clear A100
          by_cases c11 : t333 = true
          · subst c11
            have H1 : (laws_FnDrawGraphics.j1 kj3 a0 l1 (decide ((l1.length : Int) > 4)) a2_0 a2_1 a2_2) = some r := by rw [if_pos rfl] at H; exact H
            clear H
            have H := H1
            clear H1
            have H' := Aside0.mk H
            clear H
            go_wp2_with (first | ((with_reducible refine gate_callee (f := 22) rfl ?_); refine goesL_ (some 23) rfl rfl Tryz.func22 (by kernel_rfl) rfl #[.string a0, .int .i64 60] rfl (by (try simp only [List.map_toArray, List.map_cons, List.map_nil]); first | done | rfl | (simp only [List.length_drop, List.length_take]; rfl)) ?_; (with_reducible refine (spec_DrawWord.calls kj3 a0 60 true _ A10.out).mono ?_); rintro e w' ⟨rfl, ⟨nd, rfl⟩⟩; refine ⟨_, rfl, ?_⟩))
            go_meet
            case rel => exact ⟨_, (decide ((l1.length : Int) > 4)), (by first | rfl | (simp; done) | (simp [*]; done)), H', ⟨by have := HJ3.out; first | omega | exact Nat.le_refl _⟩, ⟨by (with_reducible repeat (first | refine blk_drewN ?_ _ | refine blk_drew ?_ | refine blk_alloc ?_ _)); exact BK331.out⟩, ⟨by repeat (first | (with_reducible first | exact HB.out | apply below_alloc | apply pw_below_drewN | apply below_drew1 | refine below_set ?_ GE331.out) | exact HB.out)⟩⟩
          · replace c11 := Bool.eq_false_iff.mpr c11
            subst c11
            have H1 : (laws_FnDrawGraphics.j1 kj3 a0 l1 true a2_0 a2_1 a2_2) = some r := by rw [if_neg (show ¬ (false = true) by decide)] at H; exact H
            clear H
            have H := H1
            clear H1
            have H' := Aside0.mk H
            clear H
            go_wp2_with (first | ((with_reducible refine gate_callee (f := 22) rfl ?_); refine goesL_ (some 23) rfl rfl Tryz.func22 (by kernel_rfl) rfl #[.string a0, .int .i64 60] rfl (by (try simp only [List.map_toArray, List.map_cons, List.map_nil]); first | done | rfl | (simp only [List.length_drop, List.length_take]; rfl)) ?_; (with_reducible refine (spec_DrawWord.calls kj3 a0 60 false _ A10.out).mono ?_); rintro e w' ⟨rfl, ⟨nd, rfl⟩⟩; refine ⟨_, rfl, ?_⟩))
            go_meet
            case rel => exact ⟨_, (true), (by first | rfl | (simp; done) | (simp [*]; done)), H', ⟨by have := HJ3.out; first | omega | exact Nat.le_refl _⟩, ⟨by (with_reducible repeat (first | refine blk_drewN ?_ _ | refine blk_drew ?_ | refine blk_alloc ?_ _)); exact BK331.out⟩, ⟨by repeat (first | (with_reducible first | exact HB.out | apply below_alloc | apply pw_below_drewN | apply below_drew1 | refine below_set ?_ GE331.out) | exact HB.out)⟩⟩
        case rest => as_aux_lemma =>
          clear HC9
          try clear c1
          try clear c2
          try clear p2
          try clear c5
          try clear c6
          try clear c6b0
          try clear c6b1
          try clear c8
          try clear c11
          try clear p2
          obtain ⟨kq, x29_8, rfl, HA, HJ8, BK331, HB⟩ := hcut
          cases kq with
          | zero => exact absurd HA.out (by simp [laws_FnDrawGraphics.j1])
          | succ kj8 =>
            have H := HA.out
            clear HA
            simp only [laws_FnDrawGraphics.j1] at H
            by_cases c12 : x29_8 = true
            · subst c12
              have H1 : ((laws_drawAwake.f).bind fun t334 => (some t334)) = some r := by rw [if_pos rfl] at H; exact H
              clear H
              have H := H1
              clear H1
              replace H := Option.bind_eq_some_iff.mp H
              obtain ⟨t334, A130, H⟩ := H
              replace H : (some t334) = some r := H
              have A13 := Aside0.mk A130
              clear A130
              obtain rfl := Option.some.inj H
              go_wp2_with (first | ((with_reducible refine gate_callee (f := 8) rfl ?_); refine goesL_ (some 30) rfl rfl Tryz.func8 (by kernel_rfl) rfl #[] rfl (by (try simp only [List.map_toArray, List.map_cons, List.map_nil]); first | done | rfl | (simp only [List.length_drop, List.length_take]; rfl)) ?_; (with_reducible refine (laws_drawAwake.calls  t334 _ ?side1 A13.out).mono ?_); (case side1 => exact XTab.below HT.out (by repeat (first | (with_reducible first | exact HB.out | apply below_alloc | apply pw_below_drewN | apply below_drew1 | refine below_set ?_ GE331.out) | exact HB.out))); rintro e w14 ⟨rfl, hb⟩; refine ⟨_, rfl, ?_⟩; have n0_ := Aside0.mk (blk_below (g := gb331) (o := .cells #[.int .u8 a2_0, .int .u8 a2_1, .int .u8 a2_2] 50 (0, 0)) (by (with_reducible repeat (first | refine blk_drewN ?_ _ | refine blk_drew ?_ | refine blk_alloc ?_ _)); exact BK331.out) hb); have n1_ := Aside0.mk (below_step (by repeat (first | (with_reducible first | exact HB.out | apply below_alloc | apply pw_below_drewN | apply below_drew1 | refine below_set ?_ GE331.out) | exact HB.out)) hb); clear BK331; clear HB; have BK331 := n0_; have HB := n1_; clear n0_ n1_; (try clear hb); (try clear hb2); (try clear hk); (try clear hi)))
              go_ret
              exact ⟨by first | rfl | (simp [errW_none, errW_some] <;> rfl) | (simp [*, errW_none, errW_some] <;> rfl), by repeat (first | (with_reducible first | exact HB.out | apply below_alloc | apply pw_below_drewN | apply below_drew1 | refine below_set ?_ GE331.out) | exact HB.out)⟩
            · replace c12 := Bool.eq_false_iff.mpr c12
              subst c12
              have H1 : (laws_FnDrawGraphics.l0 kj8 a0 l1 (⟨#[]⟩ : ByteArray) l1 (l1.length : Int) 0 a2_0 a2_1 a2_2) = some r := by rw [if_neg (show ¬ (false = true) by decide)] at H; exact H
              clear H
              have H := H1
              clear H1
              have H' := Aside0.mk H
              clear H
              go_wp2
              go_loopg [7, 33] kj8 (fun kq v7 v33 w' => ∃ (x7_3 : ByteArray) (x33_3 : Int), v7 = .string x7_3 ∧ v33 = .int .i64 x33_3 ∧ Aside0 (laws_FnDrawGraphics.l0 kq a0 l1 x7_3 l1 (l1.length : Int) x33_3 a2_0 a2_1 a2_2 = some r) ∧ Aside0 (kq ≤ kj8) ∧ Aside0 (w'.heap[gb331]? = some (.cells #[.int .u8 a2_0, .int .u8 a2_1, .int .u8 a2_2] 50 (0, 0))) ∧ Aside0 (Below w.heap.size w w'))
              case atStart => exact ⟨((⟨#[]⟩ : ByteArray)), (0), (by first | rfl | (simp; done) | (simp [*]; done)), (by first | rfl | (simp; done) | (simp [*]; done)), H', ⟨Nat.le_refl _⟩, ⟨by (with_reducible repeat (first | refine blk_drewN ?_ _ | refine blk_drew ?_ | refine blk_alloc ?_ _)); exact BK331.out⟩, ⟨by repeat (first | (with_reducible first | exact HB.out | apply below_alloc | apply pw_below_drewN | apply below_drew1 | refine below_set ?_ GE331.out) | exact HB.out)⟩⟩
              case round =>
                clear H'
                try clear c1
                try clear c2
                try clear p2
                try clear c5
                try clear c6
                try clear c6b0
                try clear c6b1
                try clear c8
                try clear c11
                try clear c12
                try clear p2
                obtain ⟨x7_3, x33_3, rfl, rfl, HA, HK3, BK331, HB⟩ := hrel
                cases gk with
                | zero => exact absurd HA.out (by simp [laws_FnDrawGraphics.l0])
                | succ k3 =>
                  have H := HA.out
                  clear HA
                  simp only [laws_FnDrawGraphics.l0] at H
                  by_cases c15 : x33_3 < (l1.length : Int)
                  · rw [if_pos c15] at H
                    have c15b0 : decide (x33_3 < (l1.length : Int)) = true := decide_eq_true c15
                    clear c15
                    by_cases c16 : 0 ≤ x33_3
                    · rw [if_pos c16] at H
                      have c16b0 : decide (0 ≤ x33_3) = true := decide_eq_true c16
                      clear c16
                      by_cases c17 : x33_3 < (l1.length : Int)
                      · rw [if_pos c17] at H
                        have c17b0 : decide (x33_3 < (l1.length : Int)) = true := decide_eq_true c17
                        clear c17
                        replace H := Option.bind_eq_some_iff.mp H
                        obtain ⟨t336, A180, H⟩ := H
                        replace H : (if t336 = true then (if x33_3 > 0 then (if x7_3.size + 1 ≤ 9223372036854775807 then (if x7_3.size + 1 + (rdOf ByteArray.empty l1 x33_3).size ≤ 9223372036854775807 then (laws_FnDrawGraphics.l0 k3 a0 l1 ((x7_3 ++ (⟨#[44]⟩ : ByteArray)) ++ (rdOf ByteArray.empty l1 x33_3)) l1 (l1.length : Int) (wrap64 (x33_3 + 1)) a2_0 a2_1 a2_2) else (none)) else (none)) else (if x7_3.size + (rdOf ByteArray.empty l1 x33_3).size ≤ 9223372036854775807 then (laws_FnDrawGraphics.l0 k3 a0 l1 (x7_3 ++ (rdOf ByteArray.empty l1 x33_3)) l1 (l1.length : Int) (wrap64 (x33_3 + 1)) a2_0 a2_1 a2_2) else (none))) else ((laws_drawAwake.f).bind fun t337 => (some t337))) = some r := H
                        have A18 := Aside0.mk A180
                        clear A180
                        by_cases c19 : t336 = true
                        · subst c19
                          have H1 : (if x33_3 > 0 then (if x7_3.size + 1 ≤ 9223372036854775807 then (if x7_3.size + 1 + (rdOf ByteArray.empty l1 x33_3).size ≤ 9223372036854775807 then (laws_FnDrawGraphics.l0 k3 a0 l1 ((x7_3 ++ (⟨#[44]⟩ : ByteArray)) ++ (rdOf ByteArray.empty l1 x33_3)) l1 (l1.length : Int) (wrap64 (x33_3 + 1)) a2_0 a2_1 a2_2) else (none)) else (none)) else (if x7_3.size + (rdOf ByteArray.empty l1 x33_3).size ≤ 9223372036854775807 then (laws_FnDrawGraphics.l0 k3 a0 l1 (x7_3 ++ (rdOf ByteArray.empty l1 x33_3)) l1 (l1.length : Int) (wrap64 (x33_3 + 1)) a2_0 a2_1 a2_2) else (none))) = some r := by rw [if_pos rfl] at H; exact H
                          clear H
                          have H := H1
                          clear H1
                          by_cases c20 : x33_3 > 0
                          · rw [if_pos c20] at H
                            have c20b0 : decide (0 < x33_3) = true := decide_eq_true c20
                            clear c20
                            by_cases c21 : x7_3.size + 1 ≤ 9223372036854775807
                            · rw [if_pos c21] at H
                              have c21b0 := eq_true c21
                              have c21b1 : decide (x7_3.size + 1 ≤ 9223372036854775807) = true := decide_eq_true c21
                              try have c21b2 : (9223372036854775807 < x7_3.size + 1) = False := eq_false (Nat.not_lt.2 c21)
                              by_cases c22 : x7_3.size + 1 + (rdOf ByteArray.empty l1 x33_3).size ≤ 9223372036854775807
                              · rw [if_pos c22] at H
                                have c22b0 := eq_true c22
                                have c22b1 : decide (x7_3.size + 1 + (rdOf ByteArray.empty l1 x33_3).size ≤ 9223372036854775807) = true := decide_eq_true c22
                                try have c22b2 : (9223372036854775807 < x7_3.size + 1 + (rdOf ByteArray.empty l1 x33_3).size) = False := eq_false (Nat.not_lt.2 c22)
                                have H' := Aside0.mk H
                                clear H
                                have p335 : 0 ≤ (x33_3 : Int) := of_decide_eq_true (by first | (with_reducible assumption) | assumption)
                                have q335 : x33_3 < (l1.length : Int) := of_decide_eq_true (by first | (with_reducible assumption) | assumption)
                                obtain ⟨ad335, e335, hx335_0⟩ := Kd.at_string HR1.out x33_3 p335 q335
                                cases e335
                                replace hx335_0 := (HB.out.cell (World.block_lt_of_cell? w _ hx335_0)).trans hx335_0
                                replace p335 := eq_true p335
                                replace q335 := eq_true q335
                                go_wp2_with (first | ((with_reducible refine gate_callee (f := 22) rfl ?_); refine goesL_ (some 39) rfl rfl Tryz.func22 (by kernel_rfl) rfl #[.string (rdOf ByteArray.empty l1 x33_3), .int .i64 8] rfl (by (try simp only [List.map_toArray, List.map_cons, List.map_nil]); first | done | rfl | (simp only [List.length_drop, List.length_take]; rfl)) ?_; (with_reducible refine (spec_DrawWord.calls k3 (rdOf ByteArray.empty l1 x33_3) 8 true _ A18.out).mono ?_); rintro e w' ⟨rfl, ⟨nd, rfl⟩⟩; refine ⟨_, rfl, ?_⟩))
                                go_roundg k3
                                case measure => have := HJ3.out; have := HJ8.out; have := HK3.out; omega
                                case rel => exact ⟨((x7_3 ++ (⟨#[44]⟩ : ByteArray)) ++ (rdOf ByteArray.empty l1 x33_3)), (wrap64 (x33_3 + 1)), (by first | rfl | (simp; done) | (simp [*]; done)), (by first | rfl | (simp; done) | (simp [*]; done)), H', ⟨by have := HJ3.out; have := HJ8.out; have := HK3.out; omega⟩, ⟨by (with_reducible repeat (first | refine blk_drewN ?_ _ | refine blk_drew ?_ | refine blk_alloc ?_ _)); exact BK331.out⟩, ⟨by repeat (first | (with_reducible first | exact HB.out | apply below_alloc | apply pw_below_drewN | apply below_drew1 | refine below_set ?_ GE331.out) | exact HB.out)⟩⟩
                              · rw [if_neg c22] at H
                                exact absurd H (by simp)
                            · rw [if_neg c21] at H
                              exact absurd H (by simp)
                          · rw [if_neg c20] at H
                            have c20b0 : decide (0 < x33_3) = false := decide_eq_false c20
                            clear c20
                            by_cases c23 : x7_3.size + (rdOf ByteArray.empty l1 x33_3).size ≤ 9223372036854775807
                            · rw [if_pos c23] at H
                              have c23b0 := eq_true c23
                              have c23b1 : decide (x7_3.size + (rdOf ByteArray.empty l1 x33_3).size ≤ 9223372036854775807) = true := decide_eq_true c23
                              try have c23b2 : (9223372036854775807 < x7_3.size + (rdOf ByteArray.empty l1 x33_3).size) = False := eq_false (Nat.not_lt.2 c23)
                              have H' := Aside0.mk H
                              clear H
                              have p335 : 0 ≤ (x33_3 : Int) := of_decide_eq_true (by first | (with_reducible assumption) | assumption)
                              have q335 : x33_3 < (l1.length : Int) := of_decide_eq_true (by first | (with_reducible assumption) | assumption)
                              obtain ⟨ad335, e335, hx335_0⟩ := Kd.at_string HR1.out x33_3 p335 q335
                              cases e335
                              replace hx335_0 := (HB.out.cell (World.block_lt_of_cell? w _ hx335_0)).trans hx335_0
                              replace p335 := eq_true p335
                              replace q335 := eq_true q335
                              go_wp2_with (first | ((with_reducible refine gate_callee (f := 22) rfl ?_); refine goesL_ (some 39) rfl rfl Tryz.func22 (by kernel_rfl) rfl #[.string (rdOf ByteArray.empty l1 x33_3), .int .i64 8] rfl (by (try simp only [List.map_toArray, List.map_cons, List.map_nil]); first | done | rfl | (simp only [List.length_drop, List.length_take]; rfl)) ?_; (with_reducible refine (spec_DrawWord.calls k3 (rdOf ByteArray.empty l1 x33_3) 8 true _ A18.out).mono ?_); rintro e w' ⟨rfl, ⟨nd, rfl⟩⟩; refine ⟨_, rfl, ?_⟩))
                              go_roundg k3
                              case measure => have := HJ3.out; have := HJ8.out; have := HK3.out; omega
                              case rel => exact ⟨(x7_3 ++ (rdOf ByteArray.empty l1 x33_3)), (wrap64 (x33_3 + 1)), (by first | rfl | (simp; done) | (simp [*]; done)), (by first | rfl | (simp; done) | (simp [*]; done)), H', ⟨by have := HJ3.out; have := HJ8.out; have := HK3.out; omega⟩, ⟨by (with_reducible repeat (first | refine blk_drewN ?_ _ | refine blk_drew ?_ | refine blk_alloc ?_ _)); exact BK331.out⟩, ⟨by repeat (first | (with_reducible first | exact HB.out | apply below_alloc | apply pw_below_drewN | apply below_drew1 | refine below_set ?_ GE331.out) | exact HB.out)⟩⟩
                            · rw [if_neg c23] at H
                              exact absurd H (by simp)
                        · replace c19 := Bool.eq_false_iff.mpr c19
                          subst c19
                          have H1 : ((laws_drawAwake.f).bind fun t337 => (some t337)) = some r := by rw [if_neg (show ¬ (false = true) by decide)] at H; exact H
                          clear H
                          have H := H1
                          clear H1
                          replace H := Option.bind_eq_some_iff.mp H
                          obtain ⟨t337, A240, H⟩ := H
                          replace H : (some t337) = some r := H
                          have A24 := Aside0.mk A240
                          clear A240
                          obtain rfl := Option.some.inj H
                          have p335 : 0 ≤ (x33_3 : Int) := of_decide_eq_true (by first | (with_reducible assumption) | assumption)
                          have q335 : x33_3 < (l1.length : Int) := of_decide_eq_true (by first | (with_reducible assumption) | assumption)
                          obtain ⟨ad335, e335, hx335_0⟩ := Kd.at_string HR1.out x33_3 p335 q335
                          cases e335
                          replace hx335_0 := (HB.out.cell (World.block_lt_of_cell? w _ hx335_0)).trans hx335_0
                          replace p335 := eq_true p335
                          replace q335 := eq_true q335
                          go_wp2_with (first | ((with_reducible refine gate_callee (f := 22) rfl ?_); refine goesL_ (some 39) rfl rfl Tryz.func22 (by kernel_rfl) rfl #[.string (rdOf ByteArray.empty l1 x33_3), .int .i64 8] rfl (by (try simp only [List.map_toArray, List.map_cons, List.map_nil]); first | done | rfl | (simp only [List.length_drop, List.length_take]; rfl)) ?_; (with_reducible refine (spec_DrawWord.calls k3 (rdOf ByteArray.empty l1 x33_3) 8 false _ A18.out).mono ?_); rintro e w' ⟨rfl, ⟨nd, rfl⟩⟩; refine ⟨_, rfl, ?_⟩) | ((with_reducible refine gate_callee (f := 8) rfl ?_); refine goesL_ (some 41) rfl rfl Tryz.func8 (by kernel_rfl) rfl #[] rfl (by (try simp only [List.map_toArray, List.map_cons, List.map_nil]); first | done | rfl | (simp only [List.length_drop, List.length_take]; rfl)) ?_; (with_reducible refine (laws_drawAwake.calls  t337 _ ?side1 A24.out).mono ?_); (case side1 => exact XTab.below HT.out (by repeat (first | (with_reducible first | exact HB.out | apply below_alloc | apply pw_below_drewN | apply below_drew1 | refine below_set ?_ GE331.out) | exact HB.out))); rintro e w25 ⟨rfl, hb⟩; refine ⟨_, rfl, ?_⟩; have n0_ := Aside0.mk (blk_below (g := gb331) (o := .cells #[.int .u8 a2_0, .int .u8 a2_1, .int .u8 a2_2] 50 (0, 0)) (by (with_reducible repeat (first | refine blk_drewN ?_ _ | refine blk_drew ?_ | refine blk_alloc ?_ _)); exact BK331.out) hb); have n1_ := Aside0.mk (below_step (by repeat (first | (with_reducible first | exact HB.out | apply below_alloc | apply pw_below_drewN | apply below_drew1 | refine below_set ?_ GE331.out) | exact HB.out)) hb); clear BK331; clear HB; have BK331 := n0_; have HB := n1_; clear n0_ n1_; (try clear hb); (try clear hb2); (try clear hk); (try clear hi)))
                          go_ret
                          exact ⟨by first | rfl | (simp [errW_none, errW_some] <;> rfl) | (simp [*, errW_none, errW_some] <;> rfl), by repeat (first | (with_reducible first | exact HB.out | apply below_alloc | apply pw_below_drewN | apply below_drew1 | refine below_set ?_ GE331.out) | exact HB.out)⟩
                      · rw [if_neg c17] at H
                        exact absurd H (by simp)
                    · rw [if_neg c16] at H
                      exact absurd H (by simp)
                  · rw [if_neg c15] at H
                    have c15b0 : decide (x33_3 < (l1.length : Int)) = false := decide_eq_false c15
                    clear c15
                    replace H := Option.bind_eq_some_iff.mp H
                    obtain ⟨t338, A260, H⟩ := H
                    replace H : ((impl_Kitty.f t338 l1).bind fun t341 => ((gosem_conv.f t341).bind fun t342 => ((impl_Feed.f 32 4096 t342).bind fun t345 => (if (t345.length : Int) = 0 then (laws_FnDrawGraphics.j3 k3 a0 true a2_0 a2_1 a2_2) else (if 0 < (t345.length : Int) then (if ((rd_T55 t345 0).f0) = 7 then (if 1 + x7_3.size ≤ 9223372036854775807 then (if 1 + x7_3.size + 1 ≤ 9223372036854775807 then (if 1 + x7_3.size + 1 + a0.size ≤ 9223372036854775807 then (laws_FnDrawGraphics.j3 k3 a0 ((strOfNums ((rd_T55 t345 0).f5)).toList != ((((⟨#[71]⟩ : ByteArray) ++ x7_3) ++ (⟨#[59]⟩ : ByteArray)) ++ a0).toList) a2_0 a2_1 a2_2) else (none)) else (none)) else (none)) else (laws_FnDrawGraphics.j3 k3 a0 true a2_0 a2_1 a2_2)) else (none)))))) = some r := H
                    have A26 := Aside0.mk A260
                    clear A260
                    replace H := Option.bind_eq_some_iff.mp H
                    obtain ⟨t341, A270, H⟩ := H
                    replace H : ((gosem_conv.f t341).bind fun t342 => ((impl_Feed.f 32 4096 t342).bind fun t345 => (if (t345.length : Int) = 0 then (laws_FnDrawGraphics.j3 k3 a0 true a2_0 a2_1 a2_2) else (if 0 < (t345.length : Int) then (if ((rd_T55 t345 0).f0) = 7 then (if 1 + x7_3.size ≤ 9223372036854775807 then (if 1 + x7_3.size + 1 ≤ 9223372036854775807 then (if 1 + x7_3.size + 1 + a0.size ≤ 9223372036854775807 then (laws_FnDrawGraphics.j3 k3 a0 ((strOfNums ((rd_T55 t345 0).f5)).toList != ((((⟨#[71]⟩ : ByteArray) ++ x7_3) ++ (⟨#[59]⟩ : ByteArray)) ++ a0).toList) a2_0 a2_1 a2_2) else (none)) else (none)) else (none)) else (laws_FnDrawGraphics.j3 k3 a0 true a2_0 a2_1 a2_2)) else (none))))) = some r := H
                    have A27 := Aside0.mk A270
                    clear A270
                    replace H := Option.bind_eq_some_iff.mp H
                    obtain ⟨t342, A280, H⟩ := H
                    replace H : ((impl_Feed.f 32 4096 t342).bind fun t345 => (if (t345.length : Int) = 0 then (laws_FnDrawGraphics.j3 k3 a0 true a2_0 a2_1 a2_2) else (if 0 < (t345.length : Int) then (if ((rd_T55 t345 0).f0) = 7 then (if 1 + x7_3.size ≤ 9223372036854775807 then (if 1 + x7_3.size + 1 ≤ 9223372036854775807 then (if 1 + x7_3.size + 1 + a0.size ≤ 9223372036854775807 then (laws_FnDrawGraphics.j3 k3 a0 ((strOfNums ((rd_T55 t345 0).f5)).toList != ((((⟨#[71]⟩ : ByteArray) ++ x7_3) ++ (⟨#[59]⟩ : ByteArray)) ++ a0).toList) a2_0 a2_1 a2_2) else (none)) else (none)) else (none)) else (laws_FnDrawGraphics.j3 k3 a0 true a2_0 a2_1 a2_2)) else (none)))) = some r := H
                    have A28 := Aside0.mk A280
                    clear A280
                    replace H := Option.bind_eq_some_iff.mp H
                    obtain ⟨t345, A290, H⟩ := H
                    replace H : (if (t345.length : Int) = 0 then (laws_FnDrawGraphics.j3 k3 a0 true a2_0 a2_1 a2_2) else (if 0 < (t345.length : Int) then (if ((rd_T55 t345 0).f0) = 7 then (if 1 + x7_3.size ≤ 9223372036854775807 then (if 1 + x7_3.size + 1 ≤ 9223372036854775807 then (if 1 + x7_3.size + 1 + a0.size ≤ 9223372036854775807 then (laws_FnDrawGraphics.j3 k3 a0 ((strOfNums ((rd_T55 t345 0).f5)).toList != ((((⟨#[71]⟩ : ByteArray) ++ x7_3) ++ (⟨#[59]⟩ : ByteArray)) ++ a0).toList) a2_0 a2_1 a2_2) else (none)) else (none)) else (none)) else (laws_FnDrawGraphics.j3 k3 a0 true a2_0 a2_1 a2_2)) else (none))) = some r := H
                    have A29 := Aside0.mk A290
                    clear A290
                    have HC30 := Aside0.mk H
                    clear H
                    go_upto_region 16 with (first | ((with_reducible refine gate_dst (N := 51) rfl ?_); (try (refine gate_guard (by rfl) ?_; dsimp only)); refine conv_ev 9 32 5 rfl rfl Tryz.underlying9 Tryz.underlying32 Tryz.underlying5 a0 rfl A26.out ?_; rintro e w31 ⟨v339, rfl, ho0, hb⟩; refine ⟨_, rfl, ?_⟩; have n0_ := Aside0.mk (Kd.V_lower (Kd.V_mono (ok' := fun k_ => k_ ≠ gb331) ho0 (fun k_ hk_ => (Kd.freshB (g := gb331) (o := .cells #[.int .u8 a2_0, .int .u8 a2_1, .int .u8 a2_2] 50 (0, 0)) (by (with_reducible repeat (first | refine blk_drewN ?_ _ | refine blk_drew ?_ | refine blk_alloc ?_ _)); exact BK331.out) k_ hk_))) (below_size (by repeat (first | (with_reducible first | exact HB.out | apply below_alloc | apply pw_below_drewN | apply below_drew1 | refine below_set ?_ GE331.out) | exact HB.out)))); have n1_ := Aside0.mk (blk_below (g := gb331) (o := .cells #[.int .u8 a2_0, .int .u8 a2_1, .int .u8 a2_2] 50 (0, 0)) (by (with_reducible repeat (first | refine blk_drewN ?_ _ | refine blk_drew ?_ | refine blk_alloc ?_ _)); exact BK331.out) hb); have n2_ := Aside0.mk (below_step (by repeat (first | (with_reducible first | exact HB.out | apply below_alloc | apply pw_below_drewN | apply below_drew1 | refine below_set ?_ GE331.out) | exact HB.out)) hb); clear BK331; clear HB; have HO340 := n0_; have BK331 := n1_; have HB := n2_; clear n0_ n1_ n2_; (try clear hb); (try clear hb2); (try clear hk); (try clear hi); (try clear ho0); obtain ⟨Ao32, co32, eo32⟩ := Kd.V_slice HO340.out; subst eo32) | ((with_reducible refine gate_callee (f := 23) rfl ?_); refine goesL_ (some 53) rfl rfl Tryz.func23 (by kernel_rfl) rfl #[.slice Ao32 t338.length co32, .slice A1 l1.length c1] rfl (by (try simp only [List.map_toArray, List.map_cons, List.map_nil]); first | done | rfl | (simp only [List.length_drop, List.length_take]; rfl)) ?_; (with_reducible refine (impl_Kitty.calls _ _ t338 _ _ l1 t341 _ ?side1 ?side2 ?side3 ?side4 A27.out).mono ?_); (case side1 => repeat (first | exact (Kd.V_reads' HO340.out).2.2 | (with_reducible refine Kd.C_alloc ?_ _) | (with_reducible refine Kd.C_drewN ?_ _) | (with_reducible refine Kd.C_drew ?_))); (case side2 => exact (Kd.V_reads' HO340.out).2.1); (case side3 => repeat (first | exact (Kd.C_below HR1.out HB.out) | (with_reducible refine Kd.C_alloc ?_ _) | (with_reducible refine Kd.C_drewN ?_ _) | (with_reducible refine Kd.C_drew ?_))); (case side4 => exact HC1.out); rintro e w33 ⟨rfl, hb⟩; refine ⟨_, rfl, ?_⟩; have n0_ := Aside0.mk (Kd.V_below (by (with_reducible repeat (first | apply Kd.V_alloc | apply Kd.V_drewN | apply Kd.V_drew)); exact HO340.out) hb); have n1_ := Aside0.mk (blk_below (g := gb331) (o := .cells #[.int .u8 a2_0, .int .u8 a2_1, .int .u8 a2_2] 50 (0, 0)) (by (with_reducible repeat (first | refine blk_drewN ?_ _ | refine blk_drew ?_ | refine blk_alloc ?_ _)); exact BK331.out) hb); have n2_ := Aside0.mk (below_step (by repeat (first | (with_reducible first | exact HB.out | apply below_alloc | apply pw_below_drewN | apply below_drew1 | refine below_set ?_ GE331.out) | exact HB.out)) hb); clear HO340; clear BK331; clear HB; have HO340 := n0_; have BK331 := n1_; have HB := n2_; clear n0_ n1_ n2_; (try clear hb); (try clear hb2); (try clear hk); (try clear hi)) | ((with_reducible refine gate_dst (N := 54) rfl ?_); (try (refine gate_guard (by rfl) ?_; dsimp only)); refine conv_ev 9 32 5 rfl rfl Tryz.underlying9 Tryz.underlying32 Tryz.underlying5 t341 rfl A28.out ?_; rintro e w34 ⟨v343, rfl, ho0, hb⟩; refine ⟨_, rfl, ?_⟩; have n0_ := Aside0.mk (Kd.V_below (by (with_reducible repeat (first | apply Kd.V_alloc | apply Kd.V_drewN | apply Kd.V_drew)); exact HO340.out) hb); have n1_ := Aside0.mk (Kd.V_lower (Kd.V_mono (ok' := fun k_ => k_ ≠ gb331) ho0 (fun k_ hk_ => (Kd.freshB (g := gb331) (o := .cells #[.int .u8 a2_0, .int .u8 a2_1, .int .u8 a2_2] 50 (0, 0)) (by (with_reducible repeat (first | refine blk_drewN ?_ _ | refine blk_drew ?_ | refine blk_alloc ?_ _)); exact BK331.out) k_ hk_))) (below_size (by repeat (first | (with_reducible first | exact HB.out | apply below_alloc | apply pw_below_drewN | apply below_drew1 | refine below_set ?_ GE331.out) | exact HB.out)))); have n2_ := Aside0.mk (blk_below (g := gb331) (o := .cells #[.int .u8 a2_0, .int .u8 a2_1, .int .u8 a2_2] 50 (0, 0)) (by (with_reducible repeat (first | refine blk_drewN ?_ _ | refine blk_drew ?_ | refine blk_alloc ?_ _)); exact BK331.out) hb); have n3_ := Aside0.mk (below_step (by repeat (first | (with_reducible first | exact HB.out | apply below_alloc | apply pw_below_drewN | apply below_drew1 | refine below_set ?_ GE331.out) | exact HB.out)) hb); clear HO340; clear BK331; clear HB; have HO340 := n0_; have HO344 := n1_; have BK331 := n2_; have HB := n3_; clear n0_ n1_ n2_ n3_; (try clear hb); (try clear hb2); (try clear hk); (try clear hi); (try clear ho0); obtain ⟨Ao35, co35, eo35⟩ := Kd.V_slice HO344.out; subst eo35) | ((with_reducible refine gate_callee (f := 11) rfl ?_); refine goesL_ (some 55) rfl rfl Tryz.func11 (by kernel_rfl) rfl #[.int .i64 32, .int .i64 4096, .slice Ao35 t342.length co35] rfl (by (try simp only [List.map_toArray, List.map_cons, List.map_nil]); first | done | rfl | (simp only [List.length_drop, List.length_take]; rfl)) ?_; (with_reducible refine (impl_Feed.calls 32 4096 _ _ t342 t345 _ ?side1 ?side2 A29.out).mono ?_); (case side1 => repeat (first | exact (Kd.V_reads' HO344.out).2.2 | (with_reducible refine Kd.C_alloc ?_ _) | (with_reducible refine Kd.C_drewN ?_ _) | (with_reducible refine Kd.C_drew ?_))); (case side2 => exact (Kd.V_reads' HO344.out).2.1); rintro e w36 ⟨v346, rfl, ho0, hb⟩; refine ⟨_, rfl, ?_⟩; have n0_ := Aside0.mk (Kd.V_elder' (by (with_reducible repeat (first | apply Kd.V_alloc | apply Kd.V_drewN | apply Kd.V_drew)); exact HO340.out) (Kd.S_base ho0) hb); have n1_ := Aside0.mk (Kd.V_elder' (by (with_reducible repeat (first | apply Kd.V_alloc | apply Kd.V_drewN | apply Kd.V_drew)); exact HO344.out) (Kd.S_base ho0) hb); have n2_ := Aside0.mk (Kd.S_lower ho0 (below_size (by repeat (first | (with_reducible first | exact HB.out | apply below_alloc | apply pw_below_drewN | apply below_drew1 | refine below_set ?_ GE331.out) | exact HB.out)))); have n3_ := Aside0.mk (blk_below (g := gb331) (o := .cells #[.int .u8 a2_0, .int .u8 a2_1, .int .u8 a2_2] 50 (0, 0)) (by (with_reducible repeat (first | refine blk_drewN ?_ _ | refine blk_drew ?_ | refine blk_alloc ?_ _)); exact BK331.out) hb); have n4_ := Aside0.mk (below_step (by repeat (first | (with_reducible first | exact HB.out | apply below_alloc | apply pw_below_drewN | apply below_drew1 | refine below_set ?_ GE331.out) | exact HB.out)) hb); clear HO340; clear HO344; clear BK331; clear HB; have HO340 := n0_; have HO344 := n1_; have HO347 := n2_; have BK331 := n3_; have HB := n4_; clear n0_ n1_ n2_ n3_ n4_; (try clear hb); (try clear hb2); (try clear hk); (try clear hi); (try clear ho0)))
                    (try simp only [Act.put, List.setIfInBounds_toArray, List.set_cons_zero, List.set_cons_succ])
                    go_cut [78] (fun v78 wc => ∃ (kq : Nat) (x78_29 : Bool), v78 = .bool x78_29 ∧ Aside0 (laws_FnDrawGraphics.j3 kq a0 x78_29 a2_0 a2_1 a2_2 = some r) ∧ Aside0 (kq ≤ k3) ∧ Aside0 (wc.heap[gb331]? = some (.cells #[.int .u8 a2_0, .int .u8 a2_1, .int .u8 a2_2] 50 (0, 0))) ∧ Aside0 (Below w.heap.size w wc))
                    case first =>
                      have H := HC30.out
                      clear HC30
                      by_cases c37 : (t345.length : Int) = 0
                      · rw [if_pos c37] at H
                        have c37b0 : ((t345.length : Int) == 0) = true := beq_iff_eq.mpr c37
                        have c37b1 : ((t345.length : Int) != 0) = false := bne_eq_false_iff_eq.mpr c37
                        clear c37
                        (first | rw [c37b0] | (simp only [i64_w, i32_w]; rw [c37b0]) | skip)
                        have H' := Aside0.mk H
                        clear H
                        obtain ⟨Ao38, co38, eo38⟩ := Kd.S_slice HO347.out
                        subst eo38
                        go_wp2
                        go_meet
                        case rel => exact ⟨_, (true), (by first | rfl | (simp; done) | (simp [*]; done)), H', ⟨by have := HJ3.out; have := HJ8.out; have := HK3.out; first | omega | exact Nat.le_refl _⟩, ⟨by (with_reducible repeat (first | refine blk_drewN ?_ _ | refine blk_drew ?_ | refine blk_alloc ?_ _)); exact BK331.out⟩, ⟨by repeat (first | (with_reducible first | exact HB.out | apply below_alloc | apply pw_below_drewN | apply below_drew1 | refine below_set ?_ GE331.out) | exact HB.out)⟩⟩
                      · rw [if_neg c37] at H
                        have c37b0 : ((t345.length : Int) == 0) = false := beq_eq_false_iff_ne.mpr c37
                        have c37b1 : ((t345.length : Int) != 0) = true := bne_iff_ne.mpr c37
                        have c37b2 : ¬ (t345 = []) := fun h_ => c37 (by rw [h_]; rfl)
                        (first | rw [c37b0] | (simp only [i64_w, i32_w]; rw [c37b0]) | skip)
                        by_cases c39 : 0 < (t345.length : Int)
                        · rw [if_pos c39] at H
                          have c39b0 : decide (0 < (t345.length : Int)) = true := decide_eq_true c39
                          have c39b1 : decide (0 < t345.length) = true := decide_eq_true (by omega)
                          clear c39
                          by_cases c40 : ((rd_T55 t345 0).f0) = 7
                          · rw [if_pos c40] at H
                            have c40b0 : (((rd_T55 t345 0).f0) == 7) = true := beq_iff_eq.mpr c40
                            have c40b1 : (((rd_T55 t345 0).f0) != 7) = false := bne_eq_false_iff_eq.mpr c40
                            clear c40
                            by_cases c41 : 1 + x7_3.size ≤ 9223372036854775807
                            · rw [if_pos c41] at H
                              have c41b0 := eq_true c41
                              have c41b1 : decide (1 + x7_3.size ≤ 9223372036854775807) = true := decide_eq_true c41
                              try have c41b2 : (9223372036854775807 < 1 + x7_3.size) = False := eq_false (Nat.not_lt.2 c41)
                              by_cases c42 : 1 + x7_3.size + 1 ≤ 9223372036854775807
                              · rw [if_pos c42] at H
                                have c42b0 := eq_true c42
                                have c42b1 : decide (1 + x7_3.size + 1 ≤ 9223372036854775807) = true := decide_eq_true c42
                                try have c42b2 : (9223372036854775807 < 1 + x7_3.size + 1) = False := eq_false (Nat.not_lt.2 c42)
                                by_cases c43 : 1 + x7_3.size + 1 + a0.size ≤ 9223372036854775807
                                · rw [if_pos c43] at H
                                  have c43b0 := eq_true c43
                                  have c43b1 : decide (1 + x7_3.size + 1 + a0.size ≤ 9223372036854775807) = true := decide_eq_true c43
                                  try have c43b2 : (9223372036854775807 < 1 + x7_3.size + 1 + a0.size) = False := eq_false (Nat.not_lt.2 c43)
                                  have H' := Aside0.mk H
                                  clear H
                                  obtain ⟨Ao44, co44, eo44⟩ := Kd.S_slice HO347.out
                                  subst eo44
                                  have p348 : 0 ≤ (0 : Int) := (by omega)
                                  have q348 : 0 < (t345.length : Int) := of_decide_eq_true (by first | (with_reducible assumption) | assumption)
                                  obtain ⟨ad348, A348_4, c348_4, A348_5, c348_5, e348, hx348_0, hx348_1, hx348_2, hx348_3, hx348_4, hx348_5, hl348_4, hi348_4, hl348_5, hi348_5⟩ := at_T55 (Kd.S_reads' HO347.out).2.2 0 p348 q348
                                  cases e348
                                  obtain ⟨ce348, hce348, hMe348, hcc348⟩ := Kd.S_get HO347.out z55 0 p348 (by first | exact q348 | exact of_decide_eq_true (by first | (with_reducible assumption) | assumption) | (have e_ := (Kd.S_reads' HO347.out).1; omega))
                                  obtain ⟨ve348_4, ve348_5, rfl, ge348_4, ge348_5⟩ := k55_openM hMe348
                                  have hv348_4 := hcc348 4 _ rfl
                                  rw [add_field _ _ 4 (by omega)] at hv348_4
                                  replace hv348_4 := Option.some.inj (hv348_4.symm.trans hx348_4)
                                  rw [hv348_4] at ge348_4
                                  have HL348_4 := Aside0.mk (show Kd.R (Kd.int .i64) 2 _ _ _ _ ((rd_T55 t345 0).f4) from ge348_4)
                                  clear hv348_4 ge348_4
                                  have hv348_5 := hcc348 5 _ rfl
                                  rw [add_field _ _ 5 (by omega)] at hv348_5
                                  replace hv348_5 := Option.some.inj (hv348_5.symm.trans hx348_5)
                                  rw [hv348_5] at ge348_5
                                  have HL348_5 := Aside0.mk (show Kd.R (Kd.int .u8) 5 _ _ _ _ ((rd_T55 t345 0).f5) from ge348_5)
                                  clear hv348_5 ge348_5
                                  clear hcc348 hce348
                                  have qi348 : (0 < t345.length) = True := eq_true (by omega)
                                  (try rw [show ((0 : Int)).toNat = 0 from rfl] at hx348_0)
                                  (try rw [show 0 * 6 = 0 from rfl] at hx348_0)
                                  (try rw [Addr.add_zero'] at hx348_0)
                                  (try rw [show ((0 : Int)).toNat = 0 from rfl] at hx348_1)
                                  (try rw [show 0 * 6 = 0 from rfl] at hx348_1)
                                  (try rw [Addr.add_zero'] at hx348_1)
                                  (try rw [show ((0 : Int)).toNat = 0 from rfl] at hx348_2)
                                  (try rw [show 0 * 6 = 0 from rfl] at hx348_2)
                                  (try rw [Addr.add_zero'] at hx348_2)
                                  (try rw [show ((0 : Int)).toNat = 0 from rfl] at hx348_3)
                                  (try rw [show 0 * 6 = 0 from rfl] at hx348_3)
                                  (try rw [Addr.add_zero'] at hx348_3)
                                  (try rw [show ((0 : Int)).toNat = 0 from rfl] at hx348_4)
                                  (try rw [show 0 * 6 = 0 from rfl] at hx348_4)
                                  (try rw [Addr.add_zero'] at hx348_4)
                                  (try rw [show ((0 : Int)).toNat = 0 from rfl] at hx348_5)
                                  (try rw [show 0 * 6 = 0 from rfl] at hx348_5)
                                  (try rw [Addr.add_zero'] at hx348_5)
                                  have HR348_4 := Aside0.mk hi348_4
                                  have HC348_4 := Aside0.mk hl348_4
                                  clear hi348_4 hl348_4
                                  have HR348_5 := Aside0.mk hi348_5
                                  have HC348_5 := Aside0.mk hl348_5
                                  clear hi348_5 hl348_5
                                  replace p348 := eq_true p348
                                  replace q348 := eq_true q348
                                  have p349 : 0 ≤ (0 : Int) := (by omega)
                                  have q349 : 0 < (t345.length : Int) := of_decide_eq_true (by first | (with_reducible assumption) | assumption)
                                  obtain ⟨ad349, A349_4, c349_4, A349_5, c349_5, e349, hx349_0, hx349_1, hx349_2, hx349_3, hx349_4, hx349_5, hl349_4, hi349_4, hl349_5, hi349_5⟩ := at_T55 (Kd.S_reads' HO347.out).2.2 0 p349 q349
                                  obtain rfl : ad348 = ad349 := (by injection e349)
                                  obtain ⟨ce349, hce349, hMe349, hcc349⟩ := Kd.S_get HO347.out z55 0 p349 (by first | exact q349 | exact of_decide_eq_true (by first | (with_reducible assumption) | assumption) | (have e_ := (Kd.S_reads' HO347.out).1; omega))
                                  obtain ⟨ve349_4, ve349_5, rfl, ge349_4, ge349_5⟩ := k55_openM hMe349
                                  have hv349_4 := hcc349 4 _ rfl
                                  rw [add_field _ _ 4 (by omega)] at hv349_4
                                  replace hv349_4 := Option.some.inj (hv349_4.symm.trans hx349_4)
                                  rw [hv349_4] at ge349_4
                                  have HL349_4 := Aside0.mk (show Kd.R (Kd.int .i64) 2 _ _ _ _ ((rd_T55 t345 0).f4) from ge349_4)
                                  clear hv349_4 ge349_4
                                  have hv349_5 := hcc349 5 _ rfl
                                  rw [add_field _ _ 5 (by omega)] at hv349_5
                                  replace hv349_5 := Option.some.inj (hv349_5.symm.trans hx349_5)
                                  rw [hv349_5] at ge349_5
                                  have HL349_5 := Aside0.mk (show Kd.R (Kd.int .u8) 5 _ _ _ _ ((rd_T55 t345 0).f5) from ge349_5)
                                  clear hv349_5 ge349_5
                                  clear hcc349 hce349
                                  have qi349 : (0 < t345.length) = True := eq_true (by omega)
                                  (try rw [show ((0 : Int)).toNat = 0 from rfl] at hx349_0)
                                  (try rw [show 0 * 6 = 0 from rfl] at hx349_0)
                                  (try rw [Addr.add_zero'] at hx349_0)
                                  (try rw [show ((0 : Int)).toNat = 0 from rfl] at hx349_1)
                                  (try rw [show 0 * 6 = 0 from rfl] at hx349_1)
                                  (try rw [Addr.add_zero'] at hx349_1)
                                  (try rw [show ((0 : Int)).toNat = 0 from rfl] at hx349_2)
                                  (try rw [show 0 * 6 = 0 from rfl] at hx349_2)
                                  (try rw [Addr.add_zero'] at hx349_2)
                                  (try rw [show ((0 : Int)).toNat = 0 from rfl] at hx349_3)
                                  (try rw [show 0 * 6 = 0 from rfl] at hx349_3)
                                  (try rw [Addr.add_zero'] at hx349_3)
                                  (try rw [show ((0 : Int)).toNat = 0 from rfl] at hx349_4)
                                  (try rw [show 0 * 6 = 0 from rfl] at hx349_4)
                                  (try rw [Addr.add_zero'] at hx349_4)
                                  (try rw [show ((0 : Int)).toNat = 0 from rfl] at hx349_5)
                                  (try rw [show 0 * 6 = 0 from rfl] at hx349_5)
                                  (try rw [Addr.add_zero'] at hx349_5)
                                  have HR349_4 := Aside0.mk hi349_4
                                  have HC349_4 := Aside0.mk hl349_4
                                  clear hi349_4 hl349_4
                                  have HR349_5 := Aside0.mk hi349_5
                                  have HC349_5 := Aside0.mk hl349_5
                                  clear hi349_5 hl349_5
                                  replace p349 := eq_true p349
                                  replace q349 := eq_true q349
                                  have ea_ := Option.some.inj (hx348_4.symm.trans hx349_4)
                                  injection ea_ with ea_ en_ ec_
                                  subst ea_
                                  subst ec_
                                  clear en_
                                  have ea_ := Option.some.inj (hx348_5.symm.trans hx349_5)
                                  injection ea_ with ea_ en_ ec_
                                  subst ea_
                                  subst ec_
                                  clear en_
                                  have hcv45 := Kd.C_string (P := Tryz.prog) (A := A348_5) (c := c348_5) Tryz.underlying32 Tryz.underlying5 Tryz.underlying9 (by repeat (first | (with_reducible exact HR349_5.out) | (with_reducible refine Kd.C_alloc ?_ _) | (with_reducible refine Kd.C_drewN ?_ _) | (with_reducible refine Kd.C_drew ?_) | exact HR349_5.out))
                                  go_wp2
                                  go_meet
                                  case rel => exact ⟨_, (((strOfNums ((rd_T55 t345 0).f5)).toList != ((((⟨#[71]⟩ : ByteArray) ++ x7_3) ++ (⟨#[59]⟩ : ByteArray)) ++ a0).toList)), (by first | rfl | (simp; done) | (simp [*]; done)), H', ⟨by have := HJ3.out; have := HJ8.out; have := HK3.out; first | omega | exact Nat.le_refl _⟩, ⟨by (with_reducible repeat (first | refine blk_drewN ?_ _ | refine blk_drew ?_ | refine blk_alloc ?_ _)); exact BK331.out⟩, ⟨by repeat (first | (with_reducible first | exact HB.out | apply below_alloc | apply pw_below_drewN | apply below_drew1 | refine below_set ?_ GE331.out) | exact HB.out)⟩⟩
                                · rw [if_neg c43] at H
                                  exact absurd H (by simp)
                              · rw [if_neg c42] at H
                                exact absurd H (by simp)
                            · rw [if_neg c41] at H
                              exact absurd H (by simp)
                          · rw [if_neg c40] at H
                            have c40b0 : (((rd_T55 t345 0).f0) == 7) = false := beq_eq_false_iff_ne.mpr c40
                            have c40b1 : (((rd_T55 t345 0).f0) != 7) = true := bne_iff_ne.mpr c40
                            have H' := Aside0.mk H
                            clear H
                            obtain ⟨Ao46, co46, eo46⟩ := Kd.S_slice HO347.out
                            subst eo46
                            have p348 : 0 ≤ (0 : Int) := (by omega)
                            have q348 : 0 < (t345.length : Int) := of_decide_eq_true (by first | (with_reducible assumption) | assumption)
                            obtain ⟨ad348, A348_4, c348_4, A348_5, c348_5, e348, hx348_0, hx348_1, hx348_2, hx348_3, hx348_4, hx348_5, hl348_4, hi348_4, hl348_5, hi348_5⟩ := at_T55 (Kd.S_reads' HO347.out).2.2 0 p348 q348
                            cases e348
                            obtain ⟨ce348, hce348, hMe348, hcc348⟩ := Kd.S_get HO347.out z55 0 p348 (by first | exact q348 | exact of_decide_eq_true (by first | (with_reducible assumption) | assumption) | (have e_ := (Kd.S_reads' HO347.out).1; omega))
                            obtain ⟨ve348_4, ve348_5, rfl, ge348_4, ge348_5⟩ := k55_openM hMe348
                            have hv348_4 := hcc348 4 _ rfl
                            rw [add_field _ _ 4 (by omega)] at hv348_4
                            replace hv348_4 := Option.some.inj (hv348_4.symm.trans hx348_4)
                            rw [hv348_4] at ge348_4
                            have HL348_4 := Aside0.mk (show Kd.R (Kd.int .i64) 2 _ _ _ _ ((rd_T55 t345 0).f4) from ge348_4)
                            clear hv348_4 ge348_4
                            have hv348_5 := hcc348 5 _ rfl
                            rw [add_field _ _ 5 (by omega)] at hv348_5
                            replace hv348_5 := Option.some.inj (hv348_5.symm.trans hx348_5)
                            rw [hv348_5] at ge348_5
                            have HL348_5 := Aside0.mk (show Kd.R (Kd.int .u8) 5 _ _ _ _ ((rd_T55 t345 0).f5) from ge348_5)
                            clear hv348_5 ge348_5
                            clear hcc348 hce348
                            have qi348 : (0 < t345.length) = True := eq_true (by omega)
                            (try rw [show ((0 : Int)).toNat = 0 from rfl] at hx348_0)
                            (try rw [show 0 * 6 = 0 from rfl] at hx348_0)
                            (try rw [Addr.add_zero'] at hx348_0)
                            (try rw [show ((0 : Int)).toNat = 0 from rfl] at hx348_1)
                            (try rw [show 0 * 6 = 0 from rfl] at hx348_1)
                            (try rw [Addr.add_zero'] at hx348_1)
                            (try rw [show ((0 : Int)).toNat = 0 from rfl] at hx348_2)
                            (try rw [show 0 * 6 = 0 from rfl] at hx348_2)
                            (try rw [Addr.add_zero'] at hx348_2)
                            (try rw [show ((0 : Int)).toNat = 0 from rfl] at hx348_3)
                            (try rw [show 0 * 6 = 0 from rfl] at hx348_3)
                            (try rw [Addr.add_zero'] at hx348_3)
                            (try rw [show ((0 : Int)).toNat = 0 from rfl] at hx348_4)
                            (try rw [show 0 * 6 = 0 from rfl] at hx348_4)
                            (try rw [Addr.add_zero'] at hx348_4)
                            (try rw [show ((0 : Int)).toNat = 0 from rfl] at hx348_5)
                            (try rw [show 0 * 6 = 0 from rfl] at hx348_5)
                            (try rw [Addr.add_zero'] at hx348_5)
                            have HR348_4 := Aside0.mk hi348_4
                            have HC348_4 := Aside0.mk hl348_4
                            clear hi348_4 hl348_4
                            have HR348_5 := Aside0.mk hi348_5
                            have HC348_5 := Aside0.mk hl348_5
                            clear hi348_5 hl348_5
                            replace p348 := eq_true p348
                            replace q348 := eq_true q348
                            go_wp2
                            go_meet
                            case rel => exact ⟨_, (true), (by first | rfl | (simp; done) | (simp [*]; done)), H', ⟨by have := HJ3.out; have := HJ8.out; have := HK3.out; first | omega | exact Nat.le_refl _⟩, ⟨by (with_reducible repeat (first | refine blk_drewN ?_ _ | refine blk_drew ?_ | refine blk_alloc ?_ _)); exact BK331.out⟩, ⟨by repeat (first | (with_reducible first | exact HB.out | apply below_alloc | apply pw_below_drewN | apply below_drew1 | refine below_set ?_ GE331.out) | exact HB.out)⟩⟩
                        · rw [if_neg c39] at H
                          exact absurd H (by simp)
                    case rest => as_aux_lemma =>
                      clear HC30
                      try clear c1
                      try clear c2
                      try clear p2
                      try clear c3
                      try clear p3
                      try clear q3
                      try clear hx3
                      try clear qi3
                      try clear c4
                      try clear hcv4
                      try clear c5
                      try clear c6
                      try clear c6b0
                      try clear c6b1
                      try clear p6
                      try clear c8
                      try clear c11
                      try clear c12
                      try clear c15
                      try clear c15b0
                      try clear c16
                      try clear c16b0
                      try clear c17
                      try clear c17b0
                      try clear c19
                      try clear c20
                      try clear c20b0
                      try clear c21
                      try clear c21b0
                      try clear c21b1
                      try clear c21b2
                      try clear c22
                      try clear c22b0
                      try clear c22b1
                      try clear c22b2
                      try clear c23
                      try clear c23b0
                      try clear c23b1
                      try clear c23b2
                      try clear p33
                      try clear q33
                      try clear hx33
                      try clear c34
                      try clear p34
                      try clear q34
                      try clear hx34
                      try clear qi34
                      try clear c37
                      try clear c37b0
                      try clear c37b1
                      try clear c37b2
                      try clear c39
                      try clear c39b0
                      try clear c39b1
                      try clear c40
                      try clear c40b0
                      try clear c40b1
                      try clear c41
                      try clear c41b0
                      try clear c41b1
                      try clear c41b2
                      try clear c42
                      try clear c42b0
                      try clear c42b1
                      try clear c42b2
                      try clear c43
                      try clear c43b0
                      try clear c43b1
                      try clear c43b2
                      try clear hcv45
                      try clear hx335_0
                      try clear hx348_0
                      try clear hx348_1
                      try clear hx348_2
                      try clear hx348_3
                      try clear hx348_4
                      try clear hx348_5
                      try clear hx349_0
                      try clear hx349_1
                      try clear hx349_2
                      try clear hx349_3
                      try clear hx349_4
                      try clear hx349_5
                      try clear p2
                      try clear p335
                      try clear p348
                      try clear p349
                      try clear q335
                      try clear q348
                      try clear q349
                      obtain ⟨kq, x78_29, rfl, HA, HJ29, BK331, HB⟩ := hcut
                      cases kq with
                      | zero => exact absurd HA.out (by simp [laws_FnDrawGraphics.j3])
                      | succ kj29 =>
                        have H := HA.out
                        clear HA
                        simp only [laws_FnDrawGraphics.j3] at H
                        by_cases c47 : x78_29 = true
                        · subst c47
                          have H1 : (some false) = some r := by rw [if_pos rfl] at H; exact H
                          clear H
                          have H := H1
                          clear H1
                          obtain rfl := Option.some.inj H
                          go_wp2
                          go_ret
                          exact ⟨by first | rfl | (simp [errW_none, errW_some] <;> rfl) | (simp [*, errW_none, errW_some] <;> rfl), by repeat (first | (with_reducible first | exact HB.out | apply below_alloc | apply pw_below_drewN | apply below_drew1 | refine below_set ?_ GE331.out) | exact HB.out)⟩
                        · replace c47 := Bool.eq_false_iff.mpr c47
                          subst c47
                          have H1 : ((some (([wrap64 ((wrap64 (Int.tmod a2_0 99)) + 1), wrap64 ((wrap64 (Int.tmod a2_1 99)) + 1), wrap64 ((wrap64 (Int.tmod a2_2 99)) + 1)] : List Int) : List Int)).bind fun y350 => (if 0 < (y350.length : Int) then (if 1 < (y350.length : Int) then (if 2 < (y350.length : Int) then ((gosem_conv.f a0).bind fun t356 => ((impl_Sixel.f (rd y350 0) (rd y350 1) (rd y350 2) t356).bind fun t359 => ((gosem_conv.f t359).bind fun t360 => ((impl_Feed.f 32 4096 t360).bind fun t363 => (if (t363.length : Int) = 0 then (laws_FnDrawGraphics.j4 kj29 y350 t363 true) else (if 0 < (t363.length : Int) then (if ((rd_T55 t363 0).f0) = 4 then (if ((rd_T55 t363 0).f3) = 113 then (if (strOfNums ((rd_T55 t363 0).f5)).toList = a0.toList then (laws_FnDrawGraphics.j4 kj29 y350 t363 ((((rd_T55 t363 0).f4).length : Int) != 3)) else (laws_FnDrawGraphics.j4 kj29 y350 t363 true)) else (laws_FnDrawGraphics.j4 kj29 y350 t363 true)) else (laws_FnDrawGraphics.j4 kj29 y350 t363 true)) else (none))))))) else (none)) else (none)) else (none))) = some r := by rw [if_neg (show ¬ (false = true) by decide)] at H; exact H
                          clear H
                          have H := H1
                          clear H1
                          obtain ⟨y350, hy350⟩ : ∃ y_ : List Int, y_ = (([wrap64 ((wrap64 (Int.tmod a2_0 99)) + 1), wrap64 ((wrap64 (Int.tmod a2_1 99)) + 1), wrap64 ((wrap64 (Int.tmod a2_2 99)) + 1)] : List Int)) := ⟨_, rfl⟩
                          replace H : (if 0 < (y350.length : Int) then (if 1 < (y350.length : Int) then (if 2 < (y350.length : Int) then ((gosem_conv.f a0).bind fun t356 => ((impl_Sixel.f (rd y350 0) (rd y350 1) (rd y350 2) t356).bind fun t359 => ((gosem_conv.f t359).bind fun t360 => ((impl_Feed.f 32 4096 t360).bind fun t363 => (if (t363.length : Int) = 0 then (laws_FnDrawGraphics.j4 kj29 y350 t363 true) else (if 0 < (t363.length : Int) then (if ((rd_T55 t363 0).f0) = 4 then (if ((rd_T55 t363 0).f3) = 113 then (if (strOfNums ((rd_T55 t363 0).f5)).toList = a0.toList then (laws_FnDrawGraphics.j4 kj29 y350 t363 ((((rd_T55 t363 0).f4).length : Int) != 3)) else (laws_FnDrawGraphics.j4 kj29 y350 t363 true)) else (laws_FnDrawGraphics.j4 kj29 y350 t363 true)) else (laws_FnDrawGraphics.j4 kj29 y350 t363 true)) else (none))))))) else (none)) else (none)) else (none)) = some r := by first | (rw [hy350]; with_reducible exact H) | (have H2_ := (Option.bind_some _ _).symm.trans H; rw [hy350]; with_reducible exact H2_) | (have H2_ := (Option.bind_some _ _).symm.trans H; with_reducible exact H2_) | with_reducible exact H | (rw [hy350]; exact H) | exact H
                          have Ny350 := Aside0.mk hy350
                          clear hy350
                          by_cases c48 : 0 < (y350.length : Int)
                          · rw [if_pos c48] at H
                            have c48b0 : decide (0 < (y350.length : Int)) = true := decide_eq_true c48
                            have c48b1 : decide (0 < y350.length) = true := decide_eq_true (by omega)
                            clear c48
                            by_cases c49 : 1 < (y350.length : Int)
                            · rw [if_pos c49] at H
                              have c49b0 : decide (1 < (y350.length : Int)) = true := decide_eq_true c49
                              have c49b1 : decide (1 < y350.length) = true := decide_eq_true (by omega)
                              clear c49
                              by_cases c50 : 2 < (y350.length : Int)
                              · rw [if_pos c50] at H
                                have c50b0 : decide (2 < (y350.length : Int)) = true := decide_eq_true c50
                                have c50b1 : decide (2 < y350.length) = true := decide_eq_true (by omega)
                                clear c50
                                replace H := Option.bind_eq_some_iff.mp H
                                obtain ⟨t356, A510, H⟩ := H
                                replace H : ((impl_Sixel.f (rd y350 0) (rd y350 1) (rd y350 2) t356).bind fun t359 => ((gosem_conv.f t359).bind fun t360 => ((impl_Feed.f 32 4096 t360).bind fun t363 => (if (t363.length : Int) = 0 then (laws_FnDrawGraphics.j4 kj29 y350 t363 true) else (if 0 < (t363.length : Int) then (if ((rd_T55 t363 0).f0) = 4 then (if ((rd_T55 t363 0).f3) = 113 then (if (strOfNums ((rd_T55 t363 0).f5)).toList = a0.toList then (laws_FnDrawGraphics.j4 kj29 y350 t363 ((((rd_T55 t363 0).f4).length : Int) != 3)) else (laws_FnDrawGraphics.j4 kj29 y350 t363 true)) else (laws_FnDrawGraphics.j4 kj29 y350 t363 true)) else (laws_FnDrawGraphics.j4 kj29 y350 t363 true)) else (none)))))) = some r := H
                                have A51 := Aside0.mk A510
                                clear A510
                                replace H := Option.bind_eq_some_iff.mp H
                                obtain ⟨t359, A520, H⟩ := H
                                replace H : ((gosem_conv.f t359).bind fun t360 => ((impl_Feed.f 32 4096 t360).bind fun t363 => (if (t363.length : Int) = 0 then (laws_FnDrawGraphics.j4 kj29 y350 t363 true) else (if 0 < (t363.length : Int) then (if ((rd_T55 t363 0).f0) = 4 then (if ((rd_T55 t363 0).f3) = 113 then (if (strOfNums ((rd_T55 t363 0).f5)).toList = a0.toList then (laws_FnDrawGraphics.j4 kj29 y350 t363 ((((rd_T55 t363 0).f4).length : Int) != 3)) else (laws_FnDrawGraphics.j4 kj29 y350 t363 true)) else (laws_FnDrawGraphics.j4 kj29 y350 t363 true)) else (laws_FnDrawGraphics.j4 kj29 y350 t363 true)) else (none))))) = some r := H
                                have A52 := Aside0.mk A520
                                clear A520
                                replace H := Option.bind_eq_some_iff.mp H
                                obtain ⟨t360, A530, H⟩ := H
                                replace H : ((impl_Feed.f 32 4096 t360).bind fun t363 => (if (t363.length : Int) = 0 then (laws_FnDrawGraphics.j4 kj29 y350 t363 true) else (if 0 < (t363.length : Int) then (if ((rd_T55 t363 0).f0) = 4 then (if ((rd_T55 t363 0).f3) = 113 then (if (strOfNums ((rd_T55 t363 0).f5)).toList = a0.toList then (laws_FnDrawGraphics.j4 kj29 y350 t363 ((((rd_T55 t363 0).f4).length : Int) != 3)) else (laws_FnDrawGraphics.j4 kj29 y350 t363 true)) else (laws_FnDrawGraphics.j4 kj29 y350 t363 true)) else (laws_FnDrawGraphics.j4 kj29 y350 t363 true)) else (none)))) = some r := H
                                have A53 := Aside0.mk A530
                                clear A530
                                replace H := Option.bind_eq_some_iff.mp H
                                obtain ⟨t363, A540, H⟩ := H
                                replace H : (if (t363.length : Int) = 0 then (laws_FnDrawGraphics.j4 kj29 y350 t363 true) else (if 0 < (t363.length : Int) then (if ((rd_T55 t363 0).f0) = 4 then (if ((rd_T55 t363 0).f3) = 113 then (if (strOfNums ((rd_T55 t363 0).f5)).toList = a0.toList then (laws_FnDrawGraphics.j4 kj29 y350 t363 ((((rd_T55 t363 0).f4).length : Int) != 3)) else (laws_FnDrawGraphics.j4 kj29 y350 t363 true)) else (laws_FnDrawGraphics.j4 kj29 y350 t363 true)) else (laws_FnDrawGraphics.j4 kj29 y350 t363 true)) else (none))) = some r := H
                                have A54 := Aside0.mk A540
                                clear A540
                                have HC55 := Aside0.mk H
                                clear H
                                have hcz56_0 : wc.cell? ⟨gb331, 0, none⟩ = some (.int .u8 a2_0) := (blk_cell BK331.out 0).trans rfl
                                have hcz56_1 : wc.cell? ⟨gb331, 1, none⟩ = some (.int .u8 a2_1) := (blk_cell BK331.out 1).trans rfl
                                have hcz56_2 : wc.cell? ⟨gb331, 2, none⟩ = some (.int .u8 a2_2) := (blk_cell BK331.out 2).trans rfl
                                have hfz56_0 := blk_frozen BK331.out 0
                                have hfz56_1 := blk_frozen BK331.out 1
                                have hfz56_2 := blk_frozen BK331.out 2
                                try go_wp2_with (first | ((with_reducible refine gate_dst (N := 94) rfl ?_); (try (refine gate_guard (by rfl) ?_; dsimp only)); refine Kd.R_lit (Kd.int .i64) _ 2 ?hg (N := 94) ?hd (xs := ([wrap64 ((wrap64 (Int.tmod a2_0 99)) + 1), wrap64 ((wrap64 (Int.tmod a2_1 99)) + 1), wrap64 ((wrap64 (Int.tmod a2_2 99)) + 1)] : List Int)) (inner := [.int .i64 (wrap64 ((wrap64 (Int.tmod a2_0 99)) + 1)), .int .i64 (wrap64 ((wrap64 (Int.tmod a2_1 99)) + 1)), .int .i64 (wrap64 ((wrap64 (Int.tmod a2_2 99)) + 1))]) (ok := fun _ => True) (okp := fun _ => True) ?hr ?hp (fun _ hk => hk) trivial (Below.refl _ _) (Nat.le_refl _) (by simp) ?_; (case hd => rfl); (case hg => rfl); (case hr => first | (go_simp; done) | (go_simp; rfl)); (case hp => exact (Reps.one (show Kd.M (Kd.int .i64) _ _ _ (wrap64 ((wrap64 (Int.tmod a2_0 99)) + 1)) [.int .i64 (wrap64 ((wrap64 (Int.tmod a2_0 99)) + 1))] from rfl) (Reps.one (show Kd.M (Kd.int .i64) _ _ _ (wrap64 ((wrap64 (Int.tmod a2_1 99)) + 1)) [.int .i64 (wrap64 ((wrap64 (Int.tmod a2_1 99)) + 1))] from rfl) (Reps.one (show Kd.M (Kd.int .i64) _ _ _ (wrap64 ((wrap64 (Int.tmod a2_2 99)) + 1)) [.int .i64 (wrap64 ((wrap64 (Int.tmod a2_2 99)) + 1))] from rfl) (Reps.none _ _))))); intro v351 w57 ho58 hb hg_ hnew_; clear hg_ hnew_; (first | rw [← Ny350.out] at ho58 | (simp only [Int.reduceToNat] at ho58; rw [← Ny350.out] at ho58)); have n0_ := Aside0.mk (Kd.R_lower ho58 (below_size (by repeat (first | (with_reducible first | exact HB.out | apply below_alloc | apply pw_below_drewN | apply below_drew1 | refine below_set ?_ GE331.out) | exact HB.out)))); have n1_ := Aside0.mk (blk_below (g := gb331) (o := .cells #[.int .u8 a2_0, .int .u8 a2_1, .int .u8 a2_2] 50 (0, 0)) (by (with_reducible repeat (first | refine blk_drewN ?_ _ | refine blk_drew ?_ | refine blk_alloc ?_ _)); exact BK331.out) hb); have n2_ := Aside0.mk (below_step (by repeat (first | (with_reducible first | exact HB.out | apply below_alloc | apply pw_below_drewN | apply below_drew1 | refine below_set ?_ GE331.out) | exact HB.out)) hb); clear BK331; clear HB; have HO352 := n0_; have BK331 := n1_; have HB := n2_; clear n0_ n1_ n2_; clear hb ho58))
                                have n0_ := Aside0.mk (Kd.R_drew HO352.out)
                                have n1_ := Aside0.mk (blk_drew BK331.out)
                                have n2_ := Aside0.mk (below_drew1 HB.out)
                                clear HO352
                                clear BK331
                                clear HB
                                have HO352 := n0_
                                have BK331 := n1_
                                have HB := n2_
                                clear n0_ n1_ n2_
                                obtain ⟨Ao60, co60, eo60⟩ := Kd.R_slice HO352.out
                                (first | subst eo60 | (injection eo60 with f1_ f2_ f3_; have f4_ := f1_.symm; have f5_ := f3_.symm; clear f1_ f2_ f3_; subst f4_; subst f5_))
                                have p353 : 0 ≤ (0 : Int) := (by omega)
                                have q353 : 0 < (y350.length : Int) := of_decide_eq_true (by first | (with_reducible assumption) | assumption)
                                obtain ⟨ad353, e353, hx353_0⟩ := Kd.at_int (Kd.R_reads' HO352.out).2.2 0 p353 q353
                                cases e353
                                have qi353 : (0 < y350.length) = True := eq_true (by omega)
                                (try rw [show ((0 : Int)).toNat = 0 from rfl] at hx353_0)
                                (try rw [Addr.add_zero'] at hx353_0)
                                replace p353 := eq_true p353
                                replace q353 := eq_true q353
                                have p354 : 0 ≤ (1 : Int) := (by omega)
                                have q354 : 1 < (y350.length : Int) := of_decide_eq_true (by first | (with_reducible assumption) | assumption)
                                obtain ⟨ad354, e354, hx354_0⟩ := Kd.at_int (Kd.R_reads' HO352.out).2.2 1 p354 q354
                                obtain rfl : ad353 = ad354 := (by injection e354)
                                (try simp only [show (1 : Int).toNat = 1 from rfl, Nat.reduceMul, Nat.reduceEqDiff, Go.Addr.add, ↓reduceIte] at hx354_0)
                                have qi354 : (1 < y350.length) = True := eq_true (by omega)
                                (try rw [show ((1 : Int)).toNat = 1 from rfl] at hx354_0)
                                replace p354 := eq_true p354
                                replace q354 := eq_true q354
                                have p355 : 0 ≤ (2 : Int) := (by omega)
                                have q355 : 2 < (y350.length : Int) := of_decide_eq_true (by first | (with_reducible assumption) | assumption)
                                obtain ⟨ad355, e355, hx355_0⟩ := Kd.at_int (Kd.R_reads' HO352.out).2.2 2 p355 q355
                                obtain rfl : ad353 = ad355 := (by injection e355)
                                (try simp only [show (2 : Int).toNat = 2 from rfl, Nat.reduceMul, Nat.reduceEqDiff, Go.Addr.add, ↓reduceIte] at hx355_0)
                                have qi355 : (2 < y350.length) = True := eq_true (by omega)
                                (try rw [show ((2 : Int)).toNat = 2 from rfl] at hx355_0)
                                replace p355 := eq_true p355
                                replace q355 := eq_true q355
                                refine start_ (n := 15) (S := fun w' => w'.cell? ad353 = some (.int .i64 (rd y350 0)) ∧ w'.cell? ⟨ad353.block, ad353.off + 1, none⟩ = some (.int .i64 (rd y350 1)) ∧ w'.cell? ⟨ad353.block, ad353.off + 2, none⟩ = some (.int .i64 (rd y350 2))) (ds := []) #[false, false, false, false, false, false, false, false, false, false, false, false, false, false, false] (by kernel_rfl) rfl rfl ⟨hx353_0, hx354_0, hx355_0⟩ (fun hHeld => ?_); refine with_tabW laws_FnDrawGraphics.tab19 laws_FnDrawGraphics.bits19 (fun HT_ HW_ => ?_)
                                generalize w57.drew = w59 at HO352 BK331 HB hx353_0 hx354_0 hx355_0 hHeld ⊢
                                refine pure_ (i := 0) (N := some 95) (v := ?_) (a' := ?_) #[true, false, false, false, false, false, false, false, false, false, false, false, false, false, false] rfl rfl (any_of HT_.out (by kernel_rfl)) (fun _ _ _ h => h) (Or.inl ⟨by rfl, ?_⟩) ?_ ?_
                                rotate_left
                                · intro w'
                                  go_simp
                                  with_reducible rfl
                                rotate_left
                                · simp only [Act.put, List.setIfInBounds_toArray, List.set_cons_zero, List.set_cons_succ, i64_w, i32_w]
                                  rfl
                                refine pure_ (i := 1) (N := some 96) (v := ?_) (a' := ?_) #[true, true, false, false, false, false, false, false, false, false, false, false, false, false, false] rfl rfl (any_of HT_.out (by kernel_rfl)) (fun _ _ _ h => h) (Or.inl ⟨by rfl, ?_⟩) ?_ ?_
                                rotate_left
                                · intro w'
                                  go_simp
                                  with_reducible rfl
                                rotate_left
                                · simp only [Act.put, List.setIfInBounds_toArray, List.set_cons_zero, List.set_cons_succ, i64_w, i32_w]
                                  rfl
                                refine pure_ (i := 3) (N := some 98) (v := ?_) (a' := ?_) #[true, true, false, true, false, false, false, false, false, false, false, false, false, false, false] rfl rfl (any_of HT_.out (by kernel_rfl)) (fun _ _ _ h => h) (Or.inl ⟨by rfl, ?_⟩) ?_ ?_
                                rotate_left
                                · intro w'
                                  go_simp
                                  with_reducible rfl
                                rotate_left
                                · simp only [Act.put, List.setIfInBounds_toArray, List.set_cons_zero, List.set_cons_succ, i64_w, i32_w]
                                  rfl
                                refine pure_ (i := 4) (N := some 99) (v := ?_) (a' := ?_) #[true, true, false, true, true, false, false, false, false, false, false, false, false, false, false] rfl rfl (any_of HT_.out (by kernel_rfl)) (fun _ _ _ h => h) (Or.inl ⟨by rfl, ?_⟩) ?_ ?_
                                rotate_left
                                · intro w'
                                  go_simp
                                  with_reducible rfl
                                rotate_left
                                · simp only [Act.put, List.setIfInBounds_toArray, List.set_cons_zero, List.set_cons_succ, i64_w, i32_w]
                                  rfl
                                refine pure_ (i := 6) (N := some 101) (v := ?_) (a' := ?_) #[true, true, false, true, true, false, true, false, false, false, false, false, false, false, false] rfl rfl (any_of HT_.out (by kernel_rfl)) (fun _ _ _ h => h) (Or.inl ⟨by rfl, ?_⟩) ?_ ?_
                                rotate_left
                                · intro w'
                                  go_simp
                                  with_reducible rfl
                                rotate_left
                                · simp only [Act.put, List.setIfInBounds_toArray, List.set_cons_zero, List.set_cons_succ, i64_w, i32_w]
                                  rfl
                                refine pure_ (i := 7) (N := some 102) (v := ?_) (a' := ?_) #[true, true, false, true, true, false, true, true, false, false, false, false, false, false, false] rfl rfl (any_of HT_.out (by kernel_rfl)) (fun _ _ _ h => h) (Or.inl ⟨by rfl, ?_⟩) ?_ ?_
                                rotate_left
                                · intro w'
                                  go_simp
                                  with_reducible rfl
                                rotate_left
                                · simp only [Act.put, List.setIfInBounds_toArray, List.set_cons_zero, List.set_cons_succ, i64_w, i32_w]
                                  rfl
                                refine pure_ (i := 9) (N := some 104) (v := ?_) (a' := ?_) #[true, true, false, true, true, false, true, true, false, true, false, false, false, false, false] rfl rfl (any_of HT_.out (by kernel_rfl)) (fun _ _ _ h => h) (Or.inl ⟨by rfl, ?_⟩) ?_ ?_
                                rotate_left
                                · intro w'
                                  go_simp
                                  with_reducible rfl
                                rotate_left
                                · simp only [Act.put, List.setIfInBounds_toArray, List.set_cons_zero, List.set_cons_succ, i64_w, i32_w]
                                  rfl
                                refine take_ (i := 2) (N := some 97) (v := ?_) (a' := ?_) #[true, true, true, true, true, false, true, true, false, true, false, false, false, false, false] rfl rfl (take_ofW HT_.out HW_.out (by kernel_rfl)) (fun _ _ _ h => h) (Or.inl ⟨by rfl, ?_⟩) hHeld ?_ ?_
                                rotate_left
                                · rintro w' ⟨s0, s1, s2⟩
                                  go_simp
                                  with_reducible rfl
                                rotate_left
                                · simp only [Act.put, List.setIfInBounds_toArray, List.set_cons_zero, List.set_cons_succ, i64_w, i32_w]
                                  rfl
                                refine take_ (i := 5) (N := some 100) (v := ?_) (a' := ?_) #[true, true, true, true, true, true, true, true, false, true, false, false, false, false, false] rfl rfl (take_ofW HT_.out HW_.out (by kernel_rfl)) (fun _ _ _ h => h) (Or.inl ⟨by rfl, ?_⟩) hHeld ?_ ?_
                                rotate_left
                                · rintro w' ⟨s0, s1, s2⟩
                                  go_simp
                                  with_reducible rfl
                                rotate_left
                                · simp only [Act.put, List.setIfInBounds_toArray, List.set_cons_zero, List.set_cons_succ, i64_w, i32_w]
                                  rfl
                                refine take_ (i := 8) (N := some 103) (v := ?_) (a' := ?_) #[true, true, true, true, true, true, true, true, true, true, false, false, false, false, false] rfl rfl (take_ofW HT_.out HW_.out (by kernel_rfl)) (fun _ _ _ h => h) (Or.inl ⟨by rfl, ?_⟩) hHeld ?_ ?_
                                rotate_left
                                · rintro w' ⟨s0, s1, s2⟩
                                  go_simp
                                  with_reducible rfl
                                rotate_left
                                · simp only [Act.put, List.setIfInBounds_toArray, List.set_cons_zero, List.set_cons_succ, i64_w, i32_w]
                                  rfl
                                refine one_ (i := 10) (N := some 105) #[true, true, true, true, true, true, true, true, true, true, true, false, false, false, false] rfl rfl (one_of HT_.out (by kernel_rfl)) (by decide) (fun K hK => ?_)
                                refine conv_step 9 32 5 rfl rfl Tryz.underlying9 Tryz.underlying32 Tryz.underlying5 a0 rfl A51.out ?_
                                rintro e w61 ⟨v357, rfl, ho0, hb⟩
                                have HS0_ := (hb.cell (World.block_lt_of_cell? _ _ (hHeld.1))).trans (hHeld.1)
                                have HS1_ := (hb.cell (World.block_lt_of_cell? _ _ (hHeld.2.1))).trans (hHeld.2.1)
                                have HS2_ := (hb.cell (World.block_lt_of_cell? _ _ (hHeld.2.2))).trans (hHeld.2.2)
                                refine ⟨_, rfl, ?_⟩
                                have n0_ := Aside0.mk (Kd.R_below (by (with_reducible repeat (first | apply Kd.R_alloc | apply Kd.R_drewN | apply Kd.R_drew)); exact HO352.out) hb)
                                have n1_ := Aside0.mk (Kd.V_lower (Kd.V_mono (ok' := fun k_ => some k_ ≠ (.slice (some ad353) y350.length co60 : Value).ownBlock ∧ k_ ≠ gb331) ho0 (fun k_ hk_ => ⟨(Kd.fresh' (Kd.R_lt (by (with_reducible repeat (first | apply Kd.R_alloc | apply Kd.R_drewN | apply Kd.R_drew)); exact HO352.out)) k_ hk_), (Kd.freshB (g := gb331) (o := .cells #[.int .u8 a2_0, .int .u8 a2_1, .int .u8 a2_2] 50 (0, 0)) (by (with_reducible repeat (first | refine blk_drewN ?_ _ | refine blk_drew ?_ | refine blk_alloc ?_ _)); exact BK331.out) k_ hk_)⟩)) (below_size (by repeat (first | (with_reducible first | exact HB.out | apply below_alloc | apply pw_below_drewN | apply below_drew1 | refine below_set ?_ GE331.out) | exact HB.out))))
                                have n2_ := Aside0.mk (blk_below (g := gb331) (o := .cells #[.int .u8 a2_0, .int .u8 a2_1, .int .u8 a2_2] 50 (0, 0)) (by (with_reducible repeat (first | refine blk_drewN ?_ _ | refine blk_drew ?_ | refine blk_alloc ?_ _)); exact BK331.out) hb)
                                have n3_ := Aside0.mk (below_step (by repeat (first | (with_reducible first | exact HB.out | apply below_alloc | apply pw_below_drewN | apply below_drew1 | refine below_set ?_ GE331.out) | exact HB.out)) hb)
                                clear HO352
                                clear BK331
                                clear HB
                                have HO352 := n0_
                                have HO358 := n1_
                                have BK331 := n2_
                                have HB := n3_
                                clear n0_ n1_ n2_ n3_
                                (try clear hb)
                                (try clear hb2)
                                (try clear hk)
                                (try clear hi)
                                (try clear ho0)
                                obtain ⟨Ao62, co62, eo62⟩ := Kd.V_slice HO358.out
                                (first | subst eo62 | (injection eo62 with f1_ f2_ f3_; have f4_ := f1_.symm; have f5_ := f3_.symm; clear f1_ f2_ f3_; subst f4_; subst f5_))
                                refine hK.out _ _ ⟨HS0_, HS1_, HS2_⟩ (fun hHeld => ?_)
                                clear hK K
                                refine norm_ (a' := ?_) ?_ ?_
                                rotate_left
                                · show Act.put _ (some 105) _ = _
                                  simp only [Act.put, List.setIfInBounds_toArray, List.set_cons_zero, List.set_cons_succ, i64_w, i32_w]
                                  rfl
                                refine one_ (i := 11) (N := some 106) #[true, true, true, true, true, true, true, true, true, true, true, true, false, false, false] rfl rfl (one_of HT_.out (by kernel_rfl)) (by decide) (fun K hK => ?_)
                                refine goes_ Tryz.func24 (by kernel_rfl) rfl #[.int .i64 (rd y350 0), .int .i64 (rd y350 1), .int .i64 (rd y350 2), .slice Ao62 t356.length co62] (by rfl) rfl rfl (by (try simp only [List.map_toArray, List.map_cons, List.map_nil]); first | done | rfl | (simp only [List.length_drop, List.length_take]; rfl)) ?_
                                with_reducible refine (impl_Sixel.calls (rd y350 0) (rd y350 1) (rd y350 2) _ _ t356 t359 _ ?side3 ?side1 ?side2 A52.out).mono ?_
                                (case side1 => repeat (first | exact (Kd.V_reads' HO358.out).2.2 | (with_reducible refine Kd.C_alloc ?_ _) | (with_reducible refine Kd.C_drewN ?_ _) | (with_reducible refine Kd.C_drew ?_)))
                                (case side2 => exact (Kd.V_reads' HO358.out).2.1)
                                (case side3 => exact XTab.below HT.out (by repeat (first | (with_reducible first | exact HB.out | apply below_alloc | apply pw_below_drewN | apply below_drew1 | refine below_set ?_ GE331.out) | exact HB.out)))
                                rintro e w63 ⟨rfl, hb⟩
                                have HS0_ := (hb.cell (World.block_lt_of_cell? _ _ (hHeld.1))).trans (hHeld.1)
                                have HS1_ := (hb.cell (World.block_lt_of_cell? _ _ (hHeld.2.1))).trans (hHeld.2.1)
                                have HS2_ := (hb.cell (World.block_lt_of_cell? _ _ (hHeld.2.2))).trans (hHeld.2.2)
                                refine ⟨_, rfl, ?_⟩
                                have n0_ := Aside0.mk (Kd.R_below (by (with_reducible repeat (first | apply Kd.R_alloc | apply Kd.R_drewN | apply Kd.R_drew)); exact HO352.out) hb)
                                have n1_ := Aside0.mk (Kd.V_below (by (with_reducible repeat (first | apply Kd.V_alloc | apply Kd.V_drewN | apply Kd.V_drew)); exact HO358.out) hb)
                                have n2_ := Aside0.mk (blk_below (g := gb331) (o := .cells #[.int .u8 a2_0, .int .u8 a2_1, .int .u8 a2_2] 50 (0, 0)) (by (with_reducible repeat (first | refine blk_drewN ?_ _ | refine blk_drew ?_ | refine blk_alloc ?_ _)); exact BK331.out) hb)
                                have n3_ := Aside0.mk (below_step (by repeat (first | (with_reducible first | exact HB.out | apply below_alloc | apply pw_below_drewN | apply below_drew1 | refine below_set ?_ GE331.out) | exact HB.out)) hb)
                                clear HO352
                                clear HO358
                                clear BK331
                                clear HB
                                have HO352 := n0_
                                have HO358 := n1_
                                have BK331 := n2_
                                have HB := n3_
                                clear n0_ n1_ n2_ n3_
                                (try clear hb)
                                (try clear hb2)
                                (try clear hk)
                                (try clear hi)
                                refine hK.out _ _ ⟨HS0_, HS1_, HS2_⟩ (fun hHeld => ?_)
                                clear hK K
                                refine norm_ (a' := ?_) ?_ ?_
                                rotate_left
                                · show Act.put _ (some 106) _ = _
                                  simp only [Act.put, List.setIfInBounds_toArray, List.set_cons_zero, List.set_cons_succ, i64_w, i32_w]
                                  rfl
                                refine one_ (i := 12) (N := some 107) #[true, true, true, true, true, true, true, true, true, true, true, true, true, false, false] rfl rfl (one_of HT_.out (by kernel_rfl)) (by decide) (fun K hK => ?_)
                                refine conv_step 9 32 5 rfl rfl Tryz.underlying9 Tryz.underlying32 Tryz.underlying5 t359 rfl A53.out ?_
                                rintro e w64 ⟨v361, rfl, ho0, hb⟩
                                have HS0_ := (hb.cell (World.block_lt_of_cell? _ _ (hHeld.1))).trans (hHeld.1)
                                have HS1_ := (hb.cell (World.block_lt_of_cell? _ _ (hHeld.2.1))).trans (hHeld.2.1)
                                have HS2_ := (hb.cell (World.block_lt_of_cell? _ _ (hHeld.2.2))).trans (hHeld.2.2)
                                refine ⟨_, rfl, ?_⟩
                                have n0_ := Aside0.mk (Kd.R_below (by (with_reducible repeat (first | apply Kd.R_alloc | apply Kd.R_drewN | apply Kd.R_drew)); exact HO352.out) hb)
                                have n1_ := Aside0.mk (Kd.V_below (by (with_reducible repeat (first | apply Kd.V_alloc | apply Kd.V_drewN | apply Kd.V_drew)); exact HO358.out) hb)
                                have n2_ := Aside0.mk (Kd.V_lower (Kd.V_mono (ok' := fun k_ => some k_ ≠ (.slice (some ad353) y350.length co60 : Value).ownBlock ∧ k_ ≠ gb331) ho0 (fun k_ hk_ => ⟨(Kd.fresh' (Kd.R_lt (by (with_reducible repeat (first | apply Kd.R_alloc | apply Kd.R_drewN | apply Kd.R_drew)); exact HO352.out)) k_ hk_), (Kd.freshB (g := gb331) (o := .cells #[.int .u8 a2_0, .int .u8 a2_1, .int .u8 a2_2] 50 (0, 0)) (by (with_reducible repeat (first | refine blk_drewN ?_ _ | refine blk_drew ?_ | refine blk_alloc ?_ _)); exact BK331.out) k_ hk_)⟩)) (below_size (by repeat (first | (with_reducible first | exact HB.out | apply below_alloc | apply pw_below_drewN | apply below_drew1 | refine below_set ?_ GE331.out) | exact HB.out))))
                                have n3_ := Aside0.mk (blk_below (g := gb331) (o := .cells #[.int .u8 a2_0, .int .u8 a2_1, .int .u8 a2_2] 50 (0, 0)) (by (with_reducible repeat (first | refine blk_drewN ?_ _ | refine blk_drew ?_ | refine blk_alloc ?_ _)); exact BK331.out) hb)
                                have n4_ := Aside0.mk (below_step (by repeat (first | (with_reducible first | exact HB.out | apply below_alloc | apply pw_below_drewN | apply below_drew1 | refine below_set ?_ GE331.out) | exact HB.out)) hb)
                                clear HO352
                                clear HO358
                                clear BK331
                                clear HB
                                have HO352 := n0_
                                have HO358 := n1_
                                have HO362 := n2_
                                have BK331 := n3_
                                have HB := n4_
                                clear n0_ n1_ n2_ n3_ n4_
                                (try clear hb)
                                (try clear hb2)
                                (try clear hk)
                                (try clear hi)
                                (try clear ho0)
                                obtain ⟨Ao65, co65, eo65⟩ := Kd.V_slice HO362.out
                                (first | subst eo65 | (injection eo65 with f1_ f2_ f3_; have f4_ := f1_.symm; have f5_ := f3_.symm; clear f1_ f2_ f3_; subst f4_; subst f5_))
                                refine hK.out _ _ ⟨HS0_, HS1_, HS2_⟩ (fun hHeld => ?_)
                                clear hK K
                                refine norm_ (a' := ?_) ?_ ?_
                                rotate_left
                                · show Act.put _ (some 107) _ = _
                                  simp only [Act.put, List.setIfInBounds_toArray, List.set_cons_zero, List.set_cons_succ, i64_w, i32_w]
                                  rfl
                                refine one_ (i := 13) (N := some 108) #[true, true, true, true, true, true, true, true, true, true, true, true, true, true, false] rfl rfl (one_of HT_.out (by kernel_rfl)) (by decide) (fun K hK => ?_)
                                refine goes_ Tryz.func11 (by kernel_rfl) rfl #[.int .i64 32, .int .i64 4096, .slice Ao65 t360.length co65] (by rfl) rfl rfl (by (try simp only [List.map_toArray, List.map_cons, List.map_nil]); first | done | rfl | (simp only [List.length_drop, List.length_take]; rfl)) ?_
                                with_reducible refine (impl_Feed.calls 32 4096 _ _ t360 t363 _ ?side1 ?side2 A54.out).mono ?_
                                (case side1 => repeat (first | exact (Kd.V_reads' HO362.out).2.2 | (with_reducible refine Kd.C_alloc ?_ _) | (with_reducible refine Kd.C_drewN ?_ _) | (with_reducible refine Kd.C_drew ?_)))
                                (case side2 => exact (Kd.V_reads' HO362.out).2.1)
                                rintro e w66 ⟨v364, rfl, ho0, hb⟩
                                have HS0_ := (hb.cell (World.block_lt_of_cell? _ _ (hHeld.1))).trans (hHeld.1)
                                have HS1_ := (hb.cell (World.block_lt_of_cell? _ _ (hHeld.2.1))).trans (hHeld.2.1)
                                have HS2_ := (hb.cell (World.block_lt_of_cell? _ _ (hHeld.2.2))).trans (hHeld.2.2)
                                refine ⟨_, rfl, ?_⟩
                                have n0_ := Aside0.mk (Kd.R_below (by (with_reducible repeat (first | apply Kd.R_alloc | apply Kd.R_drewN | apply Kd.R_drew)); exact HO352.out) hb)
                                have n1_ := Aside0.mk (Kd.V_elder' (by (with_reducible repeat (first | apply Kd.V_alloc | apply Kd.V_drewN | apply Kd.V_drew)); exact HO358.out) (Kd.S_base ho0) hb)
                                have n2_ := Aside0.mk (Kd.V_elder' (by (with_reducible repeat (first | apply Kd.V_alloc | apply Kd.V_drewN | apply Kd.V_drew)); exact HO362.out) (Kd.S_base ho0) hb)
                                have n3_ := Aside0.mk (Kd.S_lower (Kd.S_new' ho0 (Kd.R_lt (by (with_reducible repeat (first | apply Kd.R_alloc | apply Kd.R_drewN | apply Kd.R_drew)); exact HO352.out))) (below_size (by repeat (first | (with_reducible first | exact HB.out | apply below_alloc | apply pw_below_drewN | apply below_drew1 | refine below_set ?_ GE331.out) | exact HB.out))))
                                have n4_ := Aside0.mk (blk_below (g := gb331) (o := .cells #[.int .u8 a2_0, .int .u8 a2_1, .int .u8 a2_2] 50 (0, 0)) (by (with_reducible repeat (first | refine blk_drewN ?_ _ | refine blk_drew ?_ | refine blk_alloc ?_ _)); exact BK331.out) hb)
                                have n5_ := Aside0.mk (below_step (by repeat (first | (with_reducible first | exact HB.out | apply below_alloc | apply pw_below_drewN | apply below_drew1 | refine below_set ?_ GE331.out) | exact HB.out)) hb)
                                clear HO352
                                clear HO358
                                clear HO362
                                clear BK331
                                clear HB
                                have HO352 := n0_
                                have HO358 := n1_
                                have HO362 := n2_
                                have HO365 := n3_
                                have BK331 := n4_
                                have HB := n5_
                                clear n0_ n1_ n2_ n3_ n4_ n5_
                                (try clear hb)
                                (try clear hb2)
                                (try clear hk)
                                (try clear hi)
                                (try clear ho0)
                                refine hK.out _ _ ⟨HS0_, HS1_, HS2_⟩ (fun hHeld => ?_)
                                clear hK K
                                refine norm_ (a' := ?_) ?_ ?_
                                rotate_left
                                · show Act.put _ (some 108) _ = _
                                  simp only [Act.put, List.setIfInBounds_toArray, List.set_cons_zero, List.set_cons_succ, i64_w, i32_w]
                                  rfl
                                refine pure_ (i := 14) (N := some 12) (v := ?_) (a' := ?_) #[true, true, true, true, true, true, true, true, true, true, true, true, true, true, true] rfl rfl (any_of HT_.out (by kernel_rfl)) (fun _ _ _ h => h) (Or.inl ⟨by rfl, ?_⟩) ?_ ?_
                                rotate_left
                                · intro w'
                                  go_simp
                                  with_reducible rfl
                                rotate_left
                                · simp only [Act.put, List.setIfInBounds_toArray, List.set_cons_zero, List.set_cons_succ, i64_w, i32_w]
                                  rfl
                                refine done_ (done_of HT_.out (by kernel_rfl)) ?_
                                go_upto_region 20 with (fail)
                                go_cut [142] (fun v142 wc => ∃ (kq : Nat) (x142_54 : Bool), v142 = .bool x142_54 ∧ Aside0 (laws_FnDrawGraphics.j4 kq y350 t363 x142_54 = some r) ∧ Aside0 (kq ≤ kj29) ∧ Aside0 (Kd.R (Kd.int .i64) 2 wc w.heap.size (fun _ => True) (.slice (some ad353) y350.length co60) y350) ∧ Aside0 (Kd.S k55 55 wc w.heap.size (fun k_ => some k_ ≠ ((.slice (some ad353) y350.length co60) : Value).ownBlock) v364 t363) ∧ Aside0 (wc.heap[gb331]? = some (.cells #[.int .u8 a2_0, .int .u8 a2_1, .int .u8 a2_2] 50 (0, 0))) ∧ Aside0 (Below w.heap.size w wc))
                                case first =>
                                  have H := HC55.out
                                  clear HC55
                                  by_cases c67 : (t363.length : Int) = 0
                                  · rw [if_pos c67] at H
                                    have c67b0 : ((t363.length : Int) == 0) = true := beq_iff_eq.mpr c67
                                    have c67b1 : ((t363.length : Int) != 0) = false := bne_eq_false_iff_eq.mpr c67
                                    clear c67
                                    (first | rw [c67b0] | (simp only [i64_w, i32_w]; rw [c67b0]) | skip)
                                    have H' := Aside0.mk H
                                    clear H
                                    obtain ⟨Ao68, co68, eo68⟩ := Kd.S_slice HO365.out
                                    subst eo68
                                    go_wp2
                                    go_meet
                                    case rel => exact ⟨_, (true), (by first | rfl | (simp; done) | (simp [*]; done)), H', ⟨by have := HJ3.out; have := HJ8.out; have := HK3.out; have := HJ29.out; first | omega | exact Nat.le_refl _⟩, ⟨by (with_reducible repeat (first | apply Kd.R_alloc | apply Kd.R_drewN | apply Kd.R_drew)); exact HO352.out⟩, ⟨by (with_reducible repeat (first | apply Kd.S_alloc | apply Kd.S_drewN | apply Kd.S_drew)); exact Kd.S_mono HO365.out (fun _ hk => hk.2)⟩, ⟨by (with_reducible repeat (first | refine blk_drewN ?_ _ | refine blk_drew ?_ | refine blk_alloc ?_ _)); exact BK331.out⟩, ⟨by repeat (first | (with_reducible first | exact HB.out | apply below_alloc | apply pw_below_drewN | apply below_drew1 | refine below_set ?_ GE331.out) | exact HB.out)⟩⟩
                                  · rw [if_neg c67] at H
                                    have c67b0 : ((t363.length : Int) == 0) = false := beq_eq_false_iff_ne.mpr c67
                                    have c67b1 : ((t363.length : Int) != 0) = true := bne_iff_ne.mpr c67
                                    have c67b2 : ¬ (t363 = []) := fun h_ => c67 (by rw [h_]; rfl)
                                    (first | rw [c67b0] | (simp only [i64_w, i32_w]; rw [c67b0]) | skip)
                                    by_cases c69 : 0 < (t363.length : Int)
                                    · rw [if_pos c69] at H
                                      have c69b0 : decide (0 < (t363.length : Int)) = true := decide_eq_true c69
                                      have c69b1 : decide (0 < t363.length) = true := decide_eq_true (by omega)
                                      clear c69
                                      by_cases c70 : ((rd_T55 t363 0).f0) = 4
                                      · rw [if_pos c70] at H
                                        have c70b0 : (((rd_T55 t363 0).f0) == 4) = true := beq_iff_eq.mpr c70
                                        have c70b1 : (((rd_T55 t363 0).f0) != 4) = false := bne_eq_false_iff_eq.mpr c70
                                        clear c70
                                        by_cases c71 : ((rd_T55 t363 0).f3) = 113
                                        · rw [if_pos c71] at H
                                          have c71b0 : (((rd_T55 t363 0).f3) == 113) = true := beq_iff_eq.mpr c71
                                          have c71b1 : (((rd_T55 t363 0).f3) != 113) = false := bne_eq_false_iff_eq.mpr c71
                                          clear c71
                                          by_cases c72 : (strOfNums ((rd_T55 t363 0).f5)).toList = a0.toList
                                          · rw [if_pos c72] at H
                                            have c72b0 : ((strOfNums ((rd_T55 t363 0).f5)).toList == a0.toList) = true := beq_iff_eq.mpr c72
                                            have c72b1 : ((strOfNums ((rd_T55 t363 0).f5)).toList != a0.toList) = false := bne_eq_false_iff_eq.mpr c72
                                            clear c72
                                            have H' := Aside0.mk H
                                            clear H
                                            obtain ⟨Ao73, co73, eo73⟩ := Kd.S_slice HO365.out
                                            subst eo73
                                            have p366 : 0 ≤ (0 : Int) := (by omega)
                                            have q366 : 0 < (t363.length : Int) := of_decide_eq_true (by first | (with_reducible assumption) | assumption)
                                            obtain ⟨ad366, A366_4, c366_4, A366_5, c366_5, e366, hx366_0, hx366_1, hx366_2, hx366_3, hx366_4, hx366_5, hl366_4, hi366_4, hl366_5, hi366_5⟩ := at_T55 (Kd.S_reads' HO365.out).2.2 0 p366 q366
                                            cases e366
                                            obtain ⟨ce366, hce366, hMe366, hcc366⟩ := Kd.S_get HO365.out z55 0 p366 (by first | exact q366 | exact of_decide_eq_true (by first | (with_reducible assumption) | assumption) | (have e_ := (Kd.S_reads' HO365.out).1; omega))
                                            obtain ⟨ve366_4, ve366_5, rfl, ge366_4, ge366_5⟩ := k55_openM hMe366
                                            have hv366_4 := hcc366 4 _ rfl
                                            rw [add_field _ _ 4 (by omega)] at hv366_4
                                            replace hv366_4 := Option.some.inj (hv366_4.symm.trans hx366_4)
                                            rw [hv366_4] at ge366_4
                                            have HL366_4 := Aside0.mk (show Kd.R (Kd.int .i64) 2 _ _ _ _ ((rd_T55 t363 0).f4) from ge366_4)
                                            clear hv366_4 ge366_4
                                            have hv366_5 := hcc366 5 _ rfl
                                            rw [add_field _ _ 5 (by omega)] at hv366_5
                                            replace hv366_5 := Option.some.inj (hv366_5.symm.trans hx366_5)
                                            rw [hv366_5] at ge366_5
                                            have HL366_5 := Aside0.mk (show Kd.R (Kd.int .u8) 5 _ _ _ _ ((rd_T55 t363 0).f5) from ge366_5)
                                            clear hv366_5 ge366_5
                                            clear hcc366 hce366
                                            have qi366 : (0 < t363.length) = True := eq_true (by omega)
                                            (try rw [show ((0 : Int)).toNat = 0 from rfl] at hx366_0)
                                            (try rw [show 0 * 6 = 0 from rfl] at hx366_0)
                                            (try rw [Addr.add_zero'] at hx366_0)
                                            (try rw [show ((0 : Int)).toNat = 0 from rfl] at hx366_1)
                                            (try rw [show 0 * 6 = 0 from rfl] at hx366_1)
                                            (try rw [Addr.add_zero'] at hx366_1)
                                            (try rw [show ((0 : Int)).toNat = 0 from rfl] at hx366_2)
                                            (try rw [show 0 * 6 = 0 from rfl] at hx366_2)
                                            (try rw [Addr.add_zero'] at hx366_2)
                                            (try rw [show ((0 : Int)).toNat = 0 from rfl] at hx366_3)
                                            (try rw [show 0 * 6 = 0 from rfl] at hx366_3)
                                            (try rw [Addr.add_zero'] at hx366_3)
                                            (try rw [show ((0 : Int)).toNat = 0 from rfl] at hx366_4)
                                            (try rw [show 0 * 6 = 0 from rfl] at hx366_4)
                                            (try rw [Addr.add_zero'] at hx366_4)
                                            (try rw [show ((0 : Int)).toNat = 0 from rfl] at hx366_5)
                                            (try rw [show 0 * 6 = 0 from rfl] at hx366_5)
                                            (try rw [Addr.add_zero'] at hx366_5)
                                            have HR366_4 := Aside0.mk hi366_4
                                            have HC366_4 := Aside0.mk hl366_4
                                            clear hi366_4 hl366_4
                                            have HR366_5 := Aside0.mk hi366_5
                                            have HC366_5 := Aside0.mk hl366_5
                                            clear hi366_5 hl366_5
                                            replace p366 := eq_true p366
                                            replace q366 := eq_true q366
                                            have p367 : 0 ≤ (0 : Int) := (by omega)
                                            have q367 : 0 < (t363.length : Int) := of_decide_eq_true (by first | (with_reducible assumption) | assumption)
                                            obtain ⟨ad367, A367_4, c367_4, A367_5, c367_5, e367, hx367_0, hx367_1, hx367_2, hx367_3, hx367_4, hx367_5, hl367_4, hi367_4, hl367_5, hi367_5⟩ := at_T55 (Kd.S_reads' HO365.out).2.2 0 p367 q367
                                            obtain rfl : ad366 = ad367 := (by injection e367)
                                            obtain ⟨ce367, hce367, hMe367, hcc367⟩ := Kd.S_get HO365.out z55 0 p367 (by first | exact q367 | exact of_decide_eq_true (by first | (with_reducible assumption) | assumption) | (have e_ := (Kd.S_reads' HO365.out).1; omega))
                                            obtain ⟨ve367_4, ve367_5, rfl, ge367_4, ge367_5⟩ := k55_openM hMe367
                                            have hv367_4 := hcc367 4 _ rfl
                                            rw [add_field _ _ 4 (by omega)] at hv367_4
                                            replace hv367_4 := Option.some.inj (hv367_4.symm.trans hx367_4)
                                            rw [hv367_4] at ge367_4
                                            have HL367_4 := Aside0.mk (show Kd.R (Kd.int .i64) 2 _ _ _ _ ((rd_T55 t363 0).f4) from ge367_4)
                                            clear hv367_4 ge367_4
                                            have hv367_5 := hcc367 5 _ rfl
                                            rw [add_field _ _ 5 (by omega)] at hv367_5
                                            replace hv367_5 := Option.some.inj (hv367_5.symm.trans hx367_5)
                                            rw [hv367_5] at ge367_5
                                            have HL367_5 := Aside0.mk (show Kd.R (Kd.int .u8) 5 _ _ _ _ ((rd_T55 t363 0).f5) from ge367_5)
                                            clear hv367_5 ge367_5
                                            clear hcc367 hce367
                                            have qi367 : (0 < t363.length) = True := eq_true (by omega)
                                            (try rw [show ((0 : Int)).toNat = 0 from rfl] at hx367_0)
                                            (try rw [show 0 * 6 = 0 from rfl] at hx367_0)
                                            (try rw [Addr.add_zero'] at hx367_0)
                                            (try rw [show ((0 : Int)).toNat = 0 from rfl] at hx367_1)
                                            (try rw [show 0 * 6 = 0 from rfl] at hx367_1)
                                            (try rw [Addr.add_zero'] at hx367_1)
                                            (try rw [show ((0 : Int)).toNat = 0 from rfl] at hx367_2)
                                            (try rw [show 0 * 6 = 0 from rfl] at hx367_2)
                                            (try rw [Addr.add_zero'] at hx367_2)
                                            (try rw [show ((0 : Int)).toNat = 0 from rfl] at hx367_3)
                                            (try rw [show 0 * 6 = 0 from rfl] at hx367_3)
                                            (try rw [Addr.add_zero'] at hx367_3)
                                            (try rw [show ((0 : Int)).toNat = 0 from rfl] at hx367_4)
                                            (try rw [show 0 * 6 = 0 from rfl] at hx367_4)
                                            (try rw [Addr.add_zero'] at hx367_4)
                                            (try rw [show ((0 : Int)).toNat = 0 from rfl] at hx367_5)
                                            (try rw [show 0 * 6 = 0 from rfl] at hx367_5)
                                            (try rw [Addr.add_zero'] at hx367_5)
                                            have HR367_4 := Aside0.mk hi367_4
                                            have HC367_4 := Aside0.mk hl367_4
                                            clear hi367_4 hl367_4
                                            have HR367_5 := Aside0.mk hi367_5
                                            have HC367_5 := Aside0.mk hl367_5
                                            clear hi367_5 hl367_5
                                            replace p367 := eq_true p367
                                            replace q367 := eq_true q367
                                            have ea_ := Option.some.inj (hx366_4.symm.trans hx367_4)
                                            injection ea_ with ea_ en_ ec_
                                            subst ea_
                                            subst ec_
                                            clear en_
                                            have ea_ := Option.some.inj (hx366_5.symm.trans hx367_5)
                                            injection ea_ with ea_ en_ ec_
                                            subst ea_
                                            subst ec_
                                            clear en_
                                            have p368 : 0 ≤ (0 : Int) := (by omega)
                                            have q368 : 0 < (t363.length : Int) := of_decide_eq_true (by first | (with_reducible assumption) | assumption)
                                            obtain ⟨ad368, A368_4, c368_4, A368_5, c368_5, e368, hx368_0, hx368_1, hx368_2, hx368_3, hx368_4, hx368_5, hl368_4, hi368_4, hl368_5, hi368_5⟩ := at_T55 (Kd.S_reads' HO365.out).2.2 0 p368 q368
                                            obtain rfl : ad366 = ad368 := (by injection e368)
                                            obtain ⟨ce368, hce368, hMe368, hcc368⟩ := Kd.S_get HO365.out z55 0 p368 (by first | exact q368 | exact of_decide_eq_true (by first | (with_reducible assumption) | assumption) | (have e_ := (Kd.S_reads' HO365.out).1; omega))
                                            obtain ⟨ve368_4, ve368_5, rfl, ge368_4, ge368_5⟩ := k55_openM hMe368
                                            have hv368_4 := hcc368 4 _ rfl
                                            rw [add_field _ _ 4 (by omega)] at hv368_4
                                            replace hv368_4 := Option.some.inj (hv368_4.symm.trans hx368_4)
                                            rw [hv368_4] at ge368_4
                                            have HL368_4 := Aside0.mk (show Kd.R (Kd.int .i64) 2 _ _ _ _ ((rd_T55 t363 0).f4) from ge368_4)
                                            clear hv368_4 ge368_4
                                            have hv368_5 := hcc368 5 _ rfl
                                            rw [add_field _ _ 5 (by omega)] at hv368_5
                                            replace hv368_5 := Option.some.inj (hv368_5.symm.trans hx368_5)
                                            rw [hv368_5] at ge368_5
                                            have HL368_5 := Aside0.mk (show Kd.R (Kd.int .u8) 5 _ _ _ _ ((rd_T55 t363 0).f5) from ge368_5)
                                            clear hv368_5 ge368_5
                                            clear hcc368 hce368
                                            have qi368 : (0 < t363.length) = True := eq_true (by omega)
                                            (try rw [show ((0 : Int)).toNat = 0 from rfl] at hx368_0)
                                            (try rw [show 0 * 6 = 0 from rfl] at hx368_0)
                                            (try rw [Addr.add_zero'] at hx368_0)
                                            (try rw [show ((0 : Int)).toNat = 0 from rfl] at hx368_1)
                                            (try rw [show 0 * 6 = 0 from rfl] at hx368_1)
                                            (try rw [Addr.add_zero'] at hx368_1)
                                            (try rw [show ((0 : Int)).toNat = 0 from rfl] at hx368_2)
                                            (try rw [show 0 * 6 = 0 from rfl] at hx368_2)
                                            (try rw [Addr.add_zero'] at hx368_2)
                                            (try rw [show ((0 : Int)).toNat = 0 from rfl] at hx368_3)
                                            (try rw [show 0 * 6 = 0 from rfl] at hx368_3)
                                            (try rw [Addr.add_zero'] at hx368_3)
                                            (try rw [show ((0 : Int)).toNat = 0 from rfl] at hx368_4)
                                            (try rw [show 0 * 6 = 0 from rfl] at hx368_4)
                                            (try rw [Addr.add_zero'] at hx368_4)
                                            (try rw [show ((0 : Int)).toNat = 0 from rfl] at hx368_5)
                                            (try rw [show 0 * 6 = 0 from rfl] at hx368_5)
                                            (try rw [Addr.add_zero'] at hx368_5)
                                            have HR368_4 := Aside0.mk hi368_4
                                            have HC368_4 := Aside0.mk hl368_4
                                            clear hi368_4 hl368_4
                                            have HR368_5 := Aside0.mk hi368_5
                                            have HC368_5 := Aside0.mk hl368_5
                                            clear hi368_5 hl368_5
                                            replace p368 := eq_true p368
                                            replace q368 := eq_true q368
                                            have ea_ := Option.some.inj (hx366_4.symm.trans hx368_4)
                                            injection ea_ with ea_ en_ ec_
                                            subst ea_
                                            subst ec_
                                            clear en_
                                            have ea_ := Option.some.inj (hx366_5.symm.trans hx368_5)
                                            injection ea_ with ea_ en_ ec_
                                            subst ea_
                                            subst ec_
                                            clear en_
                                            have hcv74 := Kd.C_string (P := Tryz.prog) (A := A366_5) (c := c366_5) Tryz.underlying32 Tryz.underlying5 Tryz.underlying9 (by repeat (first | (with_reducible exact HR368_5.out) | (with_reducible refine Kd.C_alloc ?_ _) | (with_reducible refine Kd.C_drewN ?_ _) | (with_reducible refine Kd.C_drew ?_) | exact HR368_5.out))
                                            have p369 : 0 ≤ (0 : Int) := (by omega)
                                            have q369 : 0 < (t363.length : Int) := of_decide_eq_true (by first | (with_reducible assumption) | assumption)
                                            obtain ⟨ad369, A369_4, c369_4, A369_5, c369_5, e369, hx369_0, hx369_1, hx369_2, hx369_3, hx369_4, hx369_5, hl369_4, hi369_4, hl369_5, hi369_5⟩ := at_T55 (Kd.S_reads' HO365.out).2.2 0 p369 q369
                                            obtain rfl : ad366 = ad369 := (by injection e369)
                                            obtain ⟨ce369, hce369, hMe369, hcc369⟩ := Kd.S_get HO365.out z55 0 p369 (by first | exact q369 | exact of_decide_eq_true (by first | (with_reducible assumption) | assumption) | (have e_ := (Kd.S_reads' HO365.out).1; omega))
                                            obtain ⟨ve369_4, ve369_5, rfl, ge369_4, ge369_5⟩ := k55_openM hMe369
                                            have hv369_4 := hcc369 4 _ rfl
                                            rw [add_field _ _ 4 (by omega)] at hv369_4
                                            replace hv369_4 := Option.some.inj (hv369_4.symm.trans hx369_4)
                                            rw [hv369_4] at ge369_4
                                            have HL369_4 := Aside0.mk (show Kd.R (Kd.int .i64) 2 _ _ _ _ ((rd_T55 t363 0).f4) from ge369_4)
                                            clear hv369_4 ge369_4
                                            have hv369_5 := hcc369 5 _ rfl
                                            rw [add_field _ _ 5 (by omega)] at hv369_5
                                            replace hv369_5 := Option.some.inj (hv369_5.symm.trans hx369_5)
                                            rw [hv369_5] at ge369_5
                                            have HL369_5 := Aside0.mk (show Kd.R (Kd.int .u8) 5 _ _ _ _ ((rd_T55 t363 0).f5) from ge369_5)
                                            clear hv369_5 ge369_5
                                            clear hcc369 hce369
                                            have qi369 : (0 < t363.length) = True := eq_true (by omega)
                                            (try rw [show ((0 : Int)).toNat = 0 from rfl] at hx369_0)
                                            (try rw [show 0 * 6 = 0 from rfl] at hx369_0)
                                            (try rw [Addr.add_zero'] at hx369_0)
                                            (try rw [show ((0 : Int)).toNat = 0 from rfl] at hx369_1)
                                            (try rw [show 0 * 6 = 0 from rfl] at hx369_1)
                                            (try rw [Addr.add_zero'] at hx369_1)
                                            (try rw [show ((0 : Int)).toNat = 0 from rfl] at hx369_2)
                                            (try rw [show 0 * 6 = 0 from rfl] at hx369_2)
                                            (try rw [Addr.add_zero'] at hx369_2)
                                            (try rw [show ((0 : Int)).toNat = 0 from rfl] at hx369_3)
                                            (try rw [show 0 * 6 = 0 from rfl] at hx369_3)
                                            (try rw [Addr.add_zero'] at hx369_3)
                                            (try rw [show ((0 : Int)).toNat = 0 from rfl] at hx369_4)
                                            (try rw [show 0 * 6 = 0 from rfl] at hx369_4)
                                            (try rw [Addr.add_zero'] at hx369_4)
                                            (try rw [show ((0 : Int)).toNat = 0 from rfl] at hx369_5)
                                            (try rw [show 0 * 6 = 0 from rfl] at hx369_5)
                                            (try rw [Addr.add_zero'] at hx369_5)
                                            have HR369_4 := Aside0.mk hi369_4
                                            have HC369_4 := Aside0.mk hl369_4
                                            clear hi369_4 hl369_4
                                            have HR369_5 := Aside0.mk hi369_5
                                            have HC369_5 := Aside0.mk hl369_5
                                            clear hi369_5 hl369_5
                                            replace p369 := eq_true p369
                                            replace q369 := eq_true q369
                                            have ea_ := Option.some.inj (hx366_4.symm.trans hx369_4)
                                            injection ea_ with ea_ en_ ec_
                                            subst ea_
                                            subst ec_
                                            clear en_
                                            have ea_ := Option.some.inj (hx366_5.symm.trans hx369_5)
                                            injection ea_ with ea_ en_ ec_
                                            subst ea_
                                            subst ec_
                                            clear en_
                                            go_wp2
                                            go_meet
                                            case rel => exact ⟨_, (((((rd_T55 t363 0).f4).length : Int) != 3)), (by first | rfl | (simp; done) | (simp [*]; done)), H', ⟨by have := HJ3.out; have := HJ8.out; have := HK3.out; have := HJ29.out; first | omega | exact Nat.le_refl _⟩, ⟨by (with_reducible repeat (first | apply Kd.R_alloc | apply Kd.R_drewN | apply Kd.R_drew)); exact HO352.out⟩, ⟨by (with_reducible repeat (first | apply Kd.S_alloc | apply Kd.S_drewN | apply Kd.S_drew)); exact Kd.S_mono HO365.out (fun _ hk => hk.2)⟩, ⟨by (with_reducible repeat (first | refine blk_drewN ?_ _ | refine blk_drew ?_ | refine blk_alloc ?_ _)); exact BK331.out⟩, ⟨by repeat (first | (with_reducible first | exact HB.out | apply below_alloc | apply pw_below_drewN | apply below_drew1 | refine below_set ?_ GE331.out) | exact HB.out)⟩⟩
                                          · rw [if_neg c72] at H
                                            have c72b0 : ((strOfNums ((rd_T55 t363 0).f5)).toList == a0.toList) = false := beq_eq_false_iff_ne.mpr c72
                                            have c72b1 : ((strOfNums ((rd_T55 t363 0).f5)).toList != a0.toList) = true := bne_iff_ne.mpr c72
                                            have H' := Aside0.mk H
                                            clear H
                                            obtain ⟨Ao75, co75, eo75⟩ := Kd.S_slice HO365.out
                                            subst eo75
                                            have p366 : 0 ≤ (0 : Int) := (by omega)
                                            have q366 : 0 < (t363.length : Int) := of_decide_eq_true (by first | (with_reducible assumption) | assumption)
                                            obtain ⟨ad366, A366_4, c366_4, A366_5, c366_5, e366, hx366_0, hx366_1, hx366_2, hx366_3, hx366_4, hx366_5, hl366_4, hi366_4, hl366_5, hi366_5⟩ := at_T55 (Kd.S_reads' HO365.out).2.2 0 p366 q366
                                            cases e366
                                            obtain ⟨ce366, hce366, hMe366, hcc366⟩ := Kd.S_get HO365.out z55 0 p366 (by first | exact q366 | exact of_decide_eq_true (by first | (with_reducible assumption) | assumption) | (have e_ := (Kd.S_reads' HO365.out).1; omega))
                                            obtain ⟨ve366_4, ve366_5, rfl, ge366_4, ge366_5⟩ := k55_openM hMe366
                                            have hv366_4 := hcc366 4 _ rfl
                                            rw [add_field _ _ 4 (by omega)] at hv366_4
                                            replace hv366_4 := Option.some.inj (hv366_4.symm.trans hx366_4)
                                            rw [hv366_4] at ge366_4
                                            have HL366_4 := Aside0.mk (show Kd.R (Kd.int .i64) 2 _ _ _ _ ((rd_T55 t363 0).f4) from ge366_4)
                                            clear hv366_4 ge366_4
                                            have hv366_5 := hcc366 5 _ rfl
                                            rw [add_field _ _ 5 (by omega)] at hv366_5
                                            replace hv366_5 := Option.some.inj (hv366_5.symm.trans hx366_5)
                                            rw [hv366_5] at ge366_5
                                            have HL366_5 := Aside0.mk (show Kd.R (Kd.int .u8) 5 _ _ _ _ ((rd_T55 t363 0).f5) from ge366_5)
                                            clear hv366_5 ge366_5
                                            clear hcc366 hce366
                                            have qi366 : (0 < t363.length) = True := eq_true (by omega)
                                            (try rw [show ((0 : Int)).toNat = 0 from rfl] at hx366_0)
                                            (try rw [show 0 * 6 = 0 from rfl] at hx366_0)
                                            (try rw [Addr.add_zero'] at hx366_0)
                                            (try rw [show ((0 : Int)).toNat = 0 from rfl] at hx366_1)
                                            (try rw [show 0 * 6 = 0 from rfl] at hx366_1)
                                            (try rw [Addr.add_zero'] at hx366_1)
                                            (try rw [show ((0 : Int)).toNat = 0 from rfl] at hx366_2)
                                            (try rw [show 0 * 6 = 0 from rfl] at hx366_2)
                                            (try rw [Addr.add_zero'] at hx366_2)
                                            (try rw [show ((0 : Int)).toNat = 0 from rfl] at hx366_3)
                                            (try rw [show 0 * 6 = 0 from rfl] at hx366_3)
                                            (try rw [Addr.add_zero'] at hx366_3)
                                            (try rw [show ((0 : Int)).toNat = 0 from rfl] at hx366_4)
                                            (try rw [show 0 * 6 = 0 from rfl] at hx366_4)
                                            (try rw [Addr.add_zero'] at hx366_4)
                                            (try rw [show ((0 : Int)).toNat = 0 from rfl] at hx366_5)
                                            (try rw [show 0 * 6 = 0 from rfl] at hx366_5)
                                            (try rw [Addr.add_zero'] at hx366_5)
                                            have HR366_4 := Aside0.mk hi366_4
                                            have HC366_4 := Aside0.mk hl366_4
                                            clear hi366_4 hl366_4
                                            have HR366_5 := Aside0.mk hi366_5
                                            have HC366_5 := Aside0.mk hl366_5
                                            clear hi366_5 hl366_5
                                            replace p366 := eq_true p366
                                            replace q366 := eq_true q366
                                            have p367 : 0 ≤ (0 : Int) := (by omega)
                                            have q367 : 0 < (t363.length : Int) := of_decide_eq_true (by first | (with_reducible assumption) | assumption)
                                            obtain ⟨ad367, A367_4, c367_4, A367_5, c367_5, e367, hx367_0, hx367_1, hx367_2, hx367_3, hx367_4, hx367_5, hl367_4, hi367_4, hl367_5, hi367_5⟩ := at_T55 (Kd.S_reads' HO365.out).2.2 0 p367 q367
                                            obtain rfl : ad366 = ad367 := (by injection e367)
                                            obtain ⟨ce367, hce367, hMe367, hcc367⟩ := Kd.S_get HO365.out z55 0 p367 (by first | exact q367 | exact of_decide_eq_true (by first | (with_reducible assumption) | assumption) | (have e_ := (Kd.S_reads' HO365.out).1; omega))
                                            obtain ⟨ve367_4, ve367_5, rfl, ge367_4, ge367_5⟩ := k55_openM hMe367
                                            have hv367_4 := hcc367 4 _ rfl
                                            rw [add_field _ _ 4 (by omega)] at hv367_4
                                            replace hv367_4 := Option.some.inj (hv367_4.symm.trans hx367_4)
                                            rw [hv367_4] at ge367_4
                                            have HL367_4 := Aside0.mk (show Kd.R (Kd.int .i64) 2 _ _ _ _ ((rd_T55 t363 0).f4) from ge367_4)
                                            clear hv367_4 ge367_4
                                            have hv367_5 := hcc367 5 _ rfl
                                            rw [add_field _ _ 5 (by omega)] at hv367_5
                                            replace hv367_5 := Option.some.inj (hv367_5.symm.trans hx367_5)
                                            rw [hv367_5] at ge367_5
                                            have HL367_5 := Aside0.mk (show Kd.R (Kd.int .u8) 5 _ _ _ _ ((rd_T55 t363 0).f5) from ge367_5)
                                            clear hv367_5 ge367_5
                                            clear hcc367 hce367
                                            have qi367 : (0 < t363.length) = True := eq_true (by omega)
                                            (try rw [show ((0 : Int)).toNat = 0 from rfl] at hx367_0)
                                            (try rw [show 0 * 6 = 0 from rfl] at hx367_0)
                                            (try rw [Addr.add_zero'] at hx367_0)
                                            (try rw [show ((0 : Int)).toNat = 0 from rfl] at hx367_1)
                                            (try rw [show 0 * 6 = 0 from rfl] at hx367_1)
                                            (try rw [Addr.add_zero'] at hx367_1)
                                            (try rw [show ((0 : Int)).toNat = 0 from rfl] at hx367_2)
                                            (try rw [show 0 * 6 = 0 from rfl] at hx367_2)
                                            (try rw [Addr.add_zero'] at hx367_2)
                                            (try rw [show ((0 : Int)).toNat = 0 from rfl] at hx367_3)
                                            (try rw [show 0 * 6 = 0 from rfl] at hx367_3)
                                            (try rw [Addr.add_zero'] at hx367_3)
                                            (try rw [show ((0 : Int)).toNat = 0 from rfl] at hx367_4)
                                            (try rw [show 0 * 6 = 0 from rfl] at hx367_4)
                                            (try rw [Addr.add_zero'] at hx367_4)
                                            (try rw [show ((0 : Int)).toNat = 0 from rfl] at hx367_5)
                                            (try rw [show 0 * 6 = 0 from rfl] at hx367_5)
                                            (try rw [Addr.add_zero'] at hx367_5)
                                            have HR367_4 := Aside0.mk hi367_4
                                            have HC367_4 := Aside0.mk hl367_4
                                            clear hi367_4 hl367_4
                                            have HR367_5 := Aside0.mk hi367_5
                                            have HC367_5 := Aside0.mk hl367_5
                                            clear hi367_5 hl367_5
                                            replace p367 := eq_true p367
                                            replace q367 := eq_true q367
                                            have ea_ := Option.some.inj (hx366_4.symm.trans hx367_4)
                                            injection ea_ with ea_ en_ ec_
                                            subst ea_
                                            subst ec_
                                            clear en_
                                            have ea_ := Option.some.inj (hx366_5.symm.trans hx367_5)
                                            injection ea_ with ea_ en_ ec_
                                            subst ea_
                                            subst ec_
                                            clear en_
                                            have p368 : 0 ≤ (0 : Int) := (by omega)
                                            have q368 : 0 < (t363.length : Int) := of_decide_eq_true (by first | (with_reducible assumption) | assumption)
                                            obtain ⟨ad368, A368_4, c368_4, A368_5, c368_5, e368, hx368_0, hx368_1, hx368_2, hx368_3, hx368_4, hx368_5, hl368_4, hi368_4, hl368_5, hi368_5⟩ := at_T55 (Kd.S_reads' HO365.out).2.2 0 p368 q368
                                            obtain rfl : ad366 = ad368 := (by injection e368)
                                            obtain ⟨ce368, hce368, hMe368, hcc368⟩ := Kd.S_get HO365.out z55 0 p368 (by first | exact q368 | exact of_decide_eq_true (by first | (with_reducible assumption) | assumption) | (have e_ := (Kd.S_reads' HO365.out).1; omega))
                                            obtain ⟨ve368_4, ve368_5, rfl, ge368_4, ge368_5⟩ := k55_openM hMe368
                                            have hv368_4 := hcc368 4 _ rfl
                                            rw [add_field _ _ 4 (by omega)] at hv368_4
                                            replace hv368_4 := Option.some.inj (hv368_4.symm.trans hx368_4)
                                            rw [hv368_4] at ge368_4
                                            have HL368_4 := Aside0.mk (show Kd.R (Kd.int .i64) 2 _ _ _ _ ((rd_T55 t363 0).f4) from ge368_4)
                                            clear hv368_4 ge368_4
                                            have hv368_5 := hcc368 5 _ rfl
                                            rw [add_field _ _ 5 (by omega)] at hv368_5
                                            replace hv368_5 := Option.some.inj (hv368_5.symm.trans hx368_5)
                                            rw [hv368_5] at ge368_5
                                            have HL368_5 := Aside0.mk (show Kd.R (Kd.int .u8) 5 _ _ _ _ ((rd_T55 t363 0).f5) from ge368_5)
                                            clear hv368_5 ge368_5
                                            clear hcc368 hce368
                                            have qi368 : (0 < t363.length) = True := eq_true (by omega)
                                            (try rw [show ((0 : Int)).toNat = 0 from rfl] at hx368_0)
                                            (try rw [show 0 * 6 = 0 from rfl] at hx368_0)
                                            (try rw [Addr.add_zero'] at hx368_0)
                                            (try rw [show ((0 : Int)).toNat = 0 from rfl] at hx368_1)
                                            (try rw [show 0 * 6 = 0 from rfl] at hx368_1)
                                            (try rw [Addr.add_zero'] at hx368_1)
                                            (try rw [show ((0 : Int)).toNat = 0 from rfl] at hx368_2)
                                            (try rw [show 0 * 6 = 0 from rfl] at hx368_2)
                                            (try rw [Addr.add_zero'] at hx368_2)
                                            (try rw [show ((0 : Int)).toNat = 0 from rfl] at hx368_3)
                                            (try rw [show 0 * 6 = 0 from rfl] at hx368_3)
                                            (try rw [Addr.add_zero'] at hx368_3)
                                            (try rw [show ((0 : Int)).toNat = 0 from rfl] at hx368_4)
                                            (try rw [show 0 * 6 = 0 from rfl] at hx368_4)
                                            (try rw [Addr.add_zero'] at hx368_4)
                                            (try rw [show ((0 : Int)).toNat = 0 from rfl] at hx368_5)
                                            (try rw [show 0 * 6 = 0 from rfl] at hx368_5)
                                            (try rw [Addr.add_zero'] at hx368_5)
                                            have HR368_4 := Aside0.mk hi368_4
                                            have HC368_4 := Aside0.mk hl368_4
                                            clear hi368_4 hl368_4
                                            have HR368_5 := Aside0.mk hi368_5
                                            have HC368_5 := Aside0.mk hl368_5
                                            clear hi368_5 hl368_5
                                            replace p368 := eq_true p368
                                            replace q368 := eq_true q368
                                            have ea_ := Option.some.inj (hx366_4.symm.trans hx368_4)
                                            injection ea_ with ea_ en_ ec_
                                            subst ea_
                                            subst ec_
                                            clear en_
                                            have ea_ := Option.some.inj (hx366_5.symm.trans hx368_5)
                                            injection ea_ with ea_ en_ ec_
                                            subst ea_
                                            subst ec_
                                            clear en_
                                            have hcv76 := Kd.C_string (P := Tryz.prog) (A := A366_5) (c := c366_5) Tryz.underlying32 Tryz.underlying5 Tryz.underlying9 (by repeat (first | (with_reducible exact HR368_5.out) | (with_reducible refine Kd.C_alloc ?_ _) | (with_reducible refine Kd.C_drewN ?_ _) | (with_reducible refine Kd.C_drew ?_) | exact HR368_5.out))
                                            go_wp2
                                            go_meet
                                            case rel => exact ⟨_, (true), (by first | rfl | (simp; done) | (simp [*]; done)), H', ⟨by have := HJ3.out; have := HJ8.out; have := HK3.out; have := HJ29.out; first | omega | exact Nat.le_refl _⟩, ⟨by (with_reducible repeat (first | apply Kd.R_alloc | apply Kd.R_drewN | apply Kd.R_drew)); exact HO352.out⟩, ⟨by (with_reducible repeat (first | apply Kd.S_alloc | apply Kd.S_drewN | apply Kd.S_drew)); exact Kd.S_mono HO365.out (fun _ hk => hk.2)⟩, ⟨by (with_reducible repeat (first | refine blk_drewN ?_ _ | refine blk_drew ?_ | refine blk_alloc ?_ _)); exact BK331.out⟩, ⟨by repeat (first | (with_reducible first | exact HB.out | apply below_alloc | apply pw_below_drewN | apply below_drew1 | refine below_set ?_ GE331.out) | exact HB.out)⟩⟩
                                        · rw [if_neg c71] at H
                                          have c71b0 : (((rd_T55 t363 0).f3) == 113) = false := beq_eq_false_iff_ne.mpr c71
                                          have c71b1 : (((rd_T55 t363 0).f3) != 113) = true := bne_iff_ne.mpr c71
                                          have H' := Aside0.mk H
                                          clear H
                                          obtain ⟨Ao77, co77, eo77⟩ := Kd.S_slice HO365.out
                                          subst eo77
                                          have p366 : 0 ≤ (0 : Int) := (by omega)
                                          have q366 : 0 < (t363.length : Int) := of_decide_eq_true (by first | (with_reducible assumption) | assumption)
                                          obtain ⟨ad366, A366_4, c366_4, A366_5, c366_5, e366, hx366_0, hx366_1, hx366_2, hx366_3, hx366_4, hx366_5, hl366_4, hi366_4, hl366_5, hi366_5⟩ := at_T55 (Kd.S_reads' HO365.out).2.2 0 p366 q366
                                          cases e366
                                          obtain ⟨ce366, hce366, hMe366, hcc366⟩ := Kd.S_get HO365.out z55 0 p366 (by first | exact q366 | exact of_decide_eq_true (by first | (with_reducible assumption) | assumption) | (have e_ := (Kd.S_reads' HO365.out).1; omega))
                                          obtain ⟨ve366_4, ve366_5, rfl, ge366_4, ge366_5⟩ := k55_openM hMe366
                                          have hv366_4 := hcc366 4 _ rfl
                                          rw [add_field _ _ 4 (by omega)] at hv366_4
                                          replace hv366_4 := Option.some.inj (hv366_4.symm.trans hx366_4)
                                          rw [hv366_4] at ge366_4
                                          have HL366_4 := Aside0.mk (show Kd.R (Kd.int .i64) 2 _ _ _ _ ((rd_T55 t363 0).f4) from ge366_4)
                                          clear hv366_4 ge366_4
                                          have hv366_5 := hcc366 5 _ rfl
                                          rw [add_field _ _ 5 (by omega)] at hv366_5
                                          replace hv366_5 := Option.some.inj (hv366_5.symm.trans hx366_5)
                                          rw [hv366_5] at ge366_5
                                          have HL366_5 := Aside0.mk (show Kd.R (Kd.int .u8) 5 _ _ _ _ ((rd_T55 t363 0).f5) from ge366_5)
                                          clear hv366_5 ge366_5
                                          clear hcc366 hce366
                                          have qi366 : (0 < t363.length) = True := eq_true (by omega)
                                          (try rw [show ((0 : Int)).toNat = 0 from rfl] at hx366_0)
                                          (try rw [show 0 * 6 = 0 from rfl] at hx366_0)
                                          (try rw [Addr.add_zero'] at hx366_0)
                                          (try rw [show ((0 : Int)).toNat = 0 from rfl] at hx366_1)
                                          (try rw [show 0 * 6 = 0 from rfl] at hx366_1)
                                          (try rw [Addr.add_zero'] at hx366_1)
                                          (try rw [show ((0 : Int)).toNat = 0 from rfl] at hx366_2)
                                          (try rw [show 0 * 6 = 0 from rfl] at hx366_2)
                                          (try rw [Addr.add_zero'] at hx366_2)
                                          (try rw [show ((0 : Int)).toNat = 0 from rfl] at hx366_3)
                                          (try rw [show 0 * 6 = 0 from rfl] at hx366_3)
                                          (try rw [Addr.add_zero'] at hx366_3)
                                          (try rw [show ((0 : Int)).toNat = 0 from rfl] at hx366_4)
                                          (try rw [show 0 * 6 = 0 from rfl] at hx366_4)
                                          (try rw [Addr.add_zero'] at hx366_4)
                                          (try rw [show ((0 : Int)).toNat = 0 from rfl] at hx366_5)
                                          (try rw [show 0 * 6 = 0 from rfl] at hx366_5)
                                          (try rw [Addr.add_zero'] at hx366_5)
                                          have HR366_4 := Aside0.mk hi366_4
                                          have HC366_4 := Aside0.mk hl366_4
                                          clear hi366_4 hl366_4
                                          have HR366_5 := Aside0.mk hi366_5
                                          have HC366_5 := Aside0.mk hl366_5
                                          clear hi366_5 hl366_5
                                          replace p366 := eq_true p366
                                          replace q366 := eq_true q366
                                          have p367 : 0 ≤ (0 : Int) := (by omega)
                                          have q367 : 0 < (t363.length : Int) := of_decide_eq_true (by first | (with_reducible assumption) | assumption)
                                          obtain ⟨ad367, A367_4, c367_4, A367_5, c367_5, e367, hx367_0, hx367_1, hx367_2, hx367_3, hx367_4, hx367_5, hl367_4, hi367_4, hl367_5, hi367_5⟩ := at_T55 (Kd.S_reads' HO365.out).2.2 0 p367 q367
                                          obtain rfl : ad366 = ad367 := (by injection e367)
                                          obtain ⟨ce367, hce367, hMe367, hcc367⟩ := Kd.S_get HO365.out z55 0 p367 (by first | exact q367 | exact of_decide_eq_true (by first | (with_reducible assumption) | assumption) | (have e_ := (Kd.S_reads' HO365.out).1; omega))
                                          obtain ⟨ve367_4, ve367_5, rfl, ge367_4, ge367_5⟩ := k55_openM hMe367
                                          have hv367_4 := hcc367 4 _ rfl
                                          rw [add_field _ _ 4 (by omega)] at hv367_4
                                          replace hv367_4 := Option.some.inj (hv367_4.symm.trans hx367_4)
                                          rw [hv367_4] at ge367_4
                                          have HL367_4 := Aside0.mk (show Kd.R (Kd.int .i64) 2 _ _ _ _ ((rd_T55 t363 0).f4) from ge367_4)
                                          clear hv367_4 ge367_4
                                          have hv367_5 := hcc367 5 _ rfl
                                          rw [add_field _ _ 5 (by omega)] at hv367_5
                                          replace hv367_5 := Option.some.inj (hv367_5.symm.trans hx367_5)
                                          rw [hv367_5] at ge367_5
                                          have HL367_5 := Aside0.mk (show Kd.R (Kd.int .u8) 5 _ _ _ _ ((rd_T55 t363 0).f5) from ge367_5)
                                          clear hv367_5 ge367_5
                                          clear hcc367 hce367
                                          have qi367 : (0 < t363.length) = True := eq_true (by omega)
                                          (try rw [show ((0 : Int)).toNat = 0 from rfl] at hx367_0)
                                          (try rw [show 0 * 6 = 0 from rfl] at hx367_0)
                                          (try rw [Addr.add_zero'] at hx367_0)
                                          (try rw [show ((0 : Int)).toNat = 0 from rfl] at hx367_1)
                                          (try rw [show 0 * 6 = 0 from rfl] at hx367_1)
                                          (try rw [Addr.add_zero'] at hx367_1)
                                          (try rw [show ((0 : Int)).toNat = 0 from rfl] at hx367_2)
                                          (try rw [show 0 * 6 = 0 from rfl] at hx367_2)
                                          (try rw [Addr.add_zero'] at hx367_2)
                                          (try rw [show ((0 : Int)).toNat = 0 from rfl] at hx367_3)
                                          (try rw [show 0 * 6 = 0 from rfl] at hx367_3)
                                          (try rw [Addr.add_zero'] at hx367_3)
                                          (try rw [show ((0 : Int)).toNat = 0 from rfl] at hx367_4)
                                          (try rw [show 0 * 6 = 0 from rfl] at hx367_4)
                                          (try rw [Addr.add_zero'] at hx367_4)
                                          (try rw [show ((0 : Int)).toNat = 0 from rfl] at hx367_5)
                                          (try rw [show 0 * 6 = 0 from rfl] at hx367_5)
                                          (try rw [Addr.add_zero'] at hx367_5)
                                          have HR367_4 := Aside0.mk hi367_4
                                          have HC367_4 := Aside0.mk hl367_4
                                          clear hi367_4 hl367_4
                                          have HR367_5 := Aside0.mk hi367_5
                                          have HC367_5 := Aside0.mk hl367_5
                                          clear hi367_5 hl367_5
                                          replace p367 := eq_true p367
                                          replace q367 := eq_true q367
                                          have ea_ := Option.some.inj (hx366_4.symm.trans hx367_4)
                                          injection ea_ with ea_ en_ ec_
                                          subst ea_
                                          subst ec_
                                          clear en_
                                          have ea_ := Option.some.inj (hx366_5.symm.trans hx367_5)
                                          injection ea_ with ea_ en_ ec_
                                          subst ea_
                                          subst ec_
                                          clear en_
                                          go_wp2
                                          go_meet
                                          case rel => exact ⟨_, (true), (by first | rfl | (simp; done) | (simp [*]; done)), H', ⟨by have := HJ3.out; have := HJ8.out; have := HK3.out; have := HJ29.out; first | omega | exact Nat.le_refl _⟩, ⟨by (with_reducible repeat (first | apply Kd.R_alloc | apply Kd.R_drewN | apply Kd.R_drew)); exact HO352.out⟩, ⟨by (with_reducible repeat (first | apply Kd.S_alloc | apply Kd.S_drewN | apply Kd.S_drew)); exact Kd.S_mono HO365.out (fun _ hk => hk.2)⟩, ⟨by (with_reducible repeat (first | refine blk_drewN ?_ _ | refine blk_drew ?_ | refine blk_alloc ?_ _)); exact BK331.out⟩, ⟨by repeat (first | (with_reducible first | exact HB.out | apply below_alloc | apply pw_below_drewN | apply below_drew1 | refine below_set ?_ GE331.out) | exact HB.out)⟩⟩
                                      · rw [if_neg c70] at H
                                        have c70b0 : (((rd_T55 t363 0).f0) == 4) = false := beq_eq_false_iff_ne.mpr c70
                                        have c70b1 : (((rd_T55 t363 0).f0) != 4) = true := bne_iff_ne.mpr c70
                                        have H' := Aside0.mk H
                                        clear H
                                        obtain ⟨Ao78, co78, eo78⟩ := Kd.S_slice HO365.out
                                        subst eo78
                                        have p366 : 0 ≤ (0 : Int) := (by omega)
                                        have q366 : 0 < (t363.length : Int) := of_decide_eq_true (by first | (with_reducible assumption) | assumption)
                                        obtain ⟨ad366, A366_4, c366_4, A366_5, c366_5, e366, hx366_0, hx366_1, hx366_2, hx366_3, hx366_4, hx366_5, hl366_4, hi366_4, hl366_5, hi366_5⟩ := at_T55 (Kd.S_reads' HO365.out).2.2 0 p366 q366
                                        cases e366
                                        obtain ⟨ce366, hce366, hMe366, hcc366⟩ := Kd.S_get HO365.out z55 0 p366 (by first | exact q366 | exact of_decide_eq_true (by first | (with_reducible assumption) | assumption) | (have e_ := (Kd.S_reads' HO365.out).1; omega))
                                        obtain ⟨ve366_4, ve366_5, rfl, ge366_4, ge366_5⟩ := k55_openM hMe366
                                        have hv366_4 := hcc366 4 _ rfl
                                        rw [add_field _ _ 4 (by omega)] at hv366_4
                                        replace hv366_4 := Option.some.inj (hv366_4.symm.trans hx366_4)
                                        rw [hv366_4] at ge366_4
                                        have HL366_4 := Aside0.mk (show Kd.R (Kd.int .i64) 2 _ _ _ _ ((rd_T55 t363 0).f4) from ge366_4)
                                        clear hv366_4 ge366_4
                                        have hv366_5 := hcc366 5 _ rfl
                                        rw [add_field _ _ 5 (by omega)] at hv366_5
                                        replace hv366_5 := Option.some.inj (hv366_5.symm.trans hx366_5)
                                        rw [hv366_5] at ge366_5
                                        have HL366_5 := Aside0.mk (show Kd.R (Kd.int .u8) 5 _ _ _ _ ((rd_T55 t363 0).f5) from ge366_5)
                                        clear hv366_5 ge366_5
                                        clear hcc366 hce366
                                        have qi366 : (0 < t363.length) = True := eq_true (by omega)
                                        (try rw [show ((0 : Int)).toNat = 0 from rfl] at hx366_0)
                                        (try rw [show 0 * 6 = 0 from rfl] at hx366_0)
                                        (try rw [Addr.add_zero'] at hx366_0)
                                        (try rw [show ((0 : Int)).toNat = 0 from rfl] at hx366_1)
                                        (try rw [show 0 * 6 = 0 from rfl] at hx366_1)
                                        (try rw [Addr.add_zero'] at hx366_1)
                                        (try rw [show ((0 : Int)).toNat = 0 from rfl] at hx366_2)
                                        (try rw [show 0 * 6 = 0 from rfl] at hx366_2)
                                        (try rw [Addr.add_zero'] at hx366_2)
                                        (try rw [show ((0 : Int)).toNat = 0 from rfl] at hx366_3)
                                        (try rw [show 0 * 6 = 0 from rfl] at hx366_3)
                                        (try rw [Addr.add_zero'] at hx366_3)
                                        (try rw [show ((0 : Int)).toNat = 0 from rfl] at hx366_4)
                                        (try rw [show 0 * 6 = 0 from rfl] at hx366_4)
                                        (try rw [Addr.add_zero'] at hx366_4)
                                        (try rw [show ((0 : Int)).toNat = 0 from rfl] at hx366_5)
                                        (try rw [show 0 * 6 = 0 from rfl] at hx366_5)
                                        (try rw [Addr.add_zero'] at hx366_5)
                                        have HR366_4 := Aside0.mk hi366_4
                                        have HC366_4 := Aside0.mk hl366_4
                                        clear hi366_4 hl366_4
                                        have HR366_5 := Aside0.mk hi366_5
                                        have HC366_5 := Aside0.mk hl366_5
                                        clear hi366_5 hl366_5
                                        replace p366 := eq_true p366
                                        replace q366 := eq_true q366
                                        go_wp2
                                        go_meet
                                        case rel => exact ⟨_, (true), (by first | rfl | (simp; done) | (simp [*]; done)), H', ⟨by have := HJ3.out; have := HJ8.out; have := HK3.out; have := HJ29.out; first | omega | exact Nat.le_refl _⟩, ⟨by (with_reducible repeat (first | apply Kd.R_alloc | apply Kd.R_drewN | apply Kd.R_drew)); exact HO352.out⟩, ⟨by (with_reducible repeat (first | apply Kd.S_alloc | apply Kd.S_drewN | apply Kd.S_drew)); exact Kd.S_mono HO365.out (fun _ hk => hk.2)⟩, ⟨by (with_reducible repeat (first | refine blk_drewN ?_ _ | refine blk_drew ?_ | refine blk_alloc ?_ _)); exact BK331.out⟩, ⟨by repeat (first | (with_reducible first | exact HB.out | apply below_alloc | apply pw_below_drewN | apply below_drew1 | refine below_set ?_ GE331.out) | exact HB.out)⟩⟩
                                    · rw [if_neg c69] at H
                                      exact absurd H (by simp)
                                case rest => as_aux_lemma =>
                                  clear HC55
                                  try clear p2
                                  try clear c3
                                  try clear p3
                                  try clear q3
                                  try clear hx3
                                  try clear qi3
                                  try clear c6
                                  try clear c7
                                  try clear hcv7
                                  try clear c36
                                  try clear p36
                                  try clear q36
                                  try clear hx36
                                  try clear qi36
                                  try clear c67
                                  try clear c67b0
                                  try clear c67b1
                                  try clear c67b2
                                  try clear c69
                                  try clear c69b0
                                  try clear c69b1
                                  try clear c70
                                  try clear c70b0
                                  try clear c70b1
                                  try clear c71
                                  try clear c71b0
                                  try clear c71b1
                                  try clear c72
                                  try clear c72b0
                                  try clear c72b1
                                  try clear hcv74
                                  try clear hcv76
                                  try clear hx366_0
                                  try clear hx366_1
                                  try clear hx366_2
                                  try clear hx366_3
                                  try clear hx366_4
                                  try clear hx366_5
                                  try clear hx367_0
                                  try clear hx367_1
                                  try clear hx367_2
                                  try clear hx367_3
                                  try clear hx367_4
                                  try clear hx367_5
                                  try clear hx368_0
                                  try clear hx368_1
                                  try clear hx368_2
                                  try clear hx368_3
                                  try clear hx368_4
                                  try clear hx368_5
                                  try clear hx369_0
                                  try clear hx369_1
                                  try clear hx369_2
                                  try clear hx369_3
                                  try clear hx369_4
                                  try clear hx369_5
                                  try clear p366
                                  try clear p367
                                  try clear p368
                                  try clear p369
                                  try clear q366
                                  try clear q367
                                  try clear q368
                                  try clear q369
                                  obtain ⟨kq, x142_54, rfl, HA, HJ54, HO_11, HO_12, BK331, HB⟩ := hcut
                                  cases kq with
                                  | zero => exact absurd HA.out (by simp [laws_FnDrawGraphics.j4])
                                  | succ kj54 =>
                                    have H := HA.out
                                    clear HA
                                    simp only [laws_FnDrawGraphics.j4] at H
                                    by_cases c79 : x142_54 = true
                                    · subst c79
                                      have H1 : (some false) = some r := by rw [if_pos rfl] at H; exact H
                                      clear H
                                      have H := H1
                                      clear H1
                                      obtain rfl := Option.some.inj H
                                      go_wp2
                                      go_ret
                                      exact ⟨by first | rfl | (simp [errW_none, errW_some] <;> rfl) | (simp [*, errW_none, errW_some] <;> rfl), by repeat (first | (with_reducible first | exact HB.out | apply below_alloc | apply pw_below_drewN | apply below_drew1 | refine below_set ?_ GE331.out) | exact HB.out)⟩
                                    · replace c79 := Bool.eq_false_iff.mpr c79
                                      subst c79
                                      have H1 : (laws_FnDrawGraphics.l1 kj54 y350 t363 (y350.length : Int) 0) = some r := by rw [if_neg (show ¬ (false = true) by decide)] at H; exact H
                                      clear H
                                      have H := H1
                                      clear H1
                                      have H' := Aside0.mk H
                                      clear H
                                      go_wp2
                                      go_loopg [145] kj54 (fun kq v145 w' => ∃ (x145_6 : Int), v145 = .int .i64 x145_6 ∧ Aside0 (laws_FnDrawGraphics.l1 kq y350 t363 (y350.length : Int) x145_6 = some r) ∧ Aside0 (kq ≤ kj54) ∧ Aside0 (Kd.R (Kd.int .i64) 2 w' w.heap.size (fun _ => True) (.slice (some ad353) y350.length co60) y350) ∧ Aside0 (Kd.S k55 55 w' w.heap.size (fun k_ => some k_ ≠ ((.slice (some ad353) y350.length co60) : Value).ownBlock) v364 t363) ∧ Aside0 (w'.heap[gb331]? = some (.cells #[.int .u8 a2_0, .int .u8 a2_1, .int .u8 a2_2] 50 (0, 0))) ∧ Aside0 (Below w.heap.size w w'))
                                      case atStart => exact ⟨(0), (by first | rfl | (simp; done) | (simp [*]; done)), H', ⟨Nat.le_refl _⟩, ⟨by (with_reducible repeat (first | apply Kd.R_alloc | apply Kd.R_drewN | apply Kd.R_drew)); exact HO_11.out⟩, ⟨by (with_reducible repeat (first | apply Kd.S_alloc | apply Kd.S_drewN | apply Kd.S_drew)); exact HO_12.out⟩, ⟨by (with_reducible repeat (first | refine blk_drewN ?_ _ | refine blk_drew ?_ | refine blk_alloc ?_ _)); exact BK331.out⟩, ⟨by repeat (first | (with_reducible first | exact HB.out | apply below_alloc | apply pw_below_drewN | apply below_drew1 | refine below_set ?_ GE331.out) | exact HB.out)⟩⟩
                                      case round =>
                                        clear H'
                                        try clear p2
                                        try clear c3
                                        try clear p3
                                        try clear q3
                                        try clear hx3
                                        try clear qi3
                                        try clear c6
                                        try clear c7
                                        try clear hcv7
                                        try clear c36
                                        try clear p36
                                        try clear q36
                                        try clear hx36
                                        try clear qi36
                                        try clear c67
                                        try clear c67b0
                                        try clear c67b1
                                        try clear c67b2
                                        try clear c69
                                        try clear c69b0
                                        try clear c69b1
                                        try clear c70
                                        try clear c70b0
                                        try clear c70b1
                                        try clear c71
                                        try clear c71b0
                                        try clear c71b1
                                        try clear c72
                                        try clear c72b0
                                        try clear c72b1
                                        try clear hcv74
                                        try clear hcv76
                                        try clear c79
                                        try clear hx366_0
                                        try clear hx366_1
                                        try clear hx366_2
                                        try clear hx366_3
                                        try clear hx366_4
                                        try clear hx366_5
                                        try clear hx367_0
                                        try clear hx367_1
                                        try clear hx367_2
                                        try clear hx367_3
                                        try clear hx367_4
                                        try clear hx367_5
                                        try clear hx368_0
                                        try clear hx368_1
                                        try clear hx368_2
                                        try clear hx368_3
                                        try clear hx368_4
                                        try clear hx368_5
                                        try clear hx369_0
                                        try clear hx369_1
                                        try clear hx369_2
                                        try clear hx369_3
                                        try clear hx369_4
                                        try clear hx369_5
                                        try clear p2
                                        try clear p3
                                        try clear p36
                                        try clear p366
                                        try clear p367
                                        try clear p368
                                        try clear p369
                                        try clear q3
                                        try clear q36
                                        try clear q366
                                        try clear q367
                                        try clear q368
                                        try clear q369
                                        obtain ⟨x145_6, rfl, HA, HK6, HO_11, HO_12, BK331, HB⟩ := hrel
                                        cases gk with
                                        | zero => exact absurd HA.out (by simp [laws_FnDrawGraphics.l1])
                                        | succ k6 =>
                                          have H := HA.out
                                          clear HA
                                          simp only [laws_FnDrawGraphics.l1] at H
                                          by_cases c80 : x145_6 < (y350.length : Int)
                                          · rw [if_pos c80] at H
                                            have c80b0 : decide (x145_6 < (y350.length : Int)) = true := decide_eq_true c80
                                            clear c80
                                            by_cases c81 : 0 < (t363.length : Int)
                                            · rw [if_pos c81] at H
                                              have c81b0 : decide (0 < (t363.length : Int)) = true := decide_eq_true c81
                                              have c81b1 : decide (0 < t363.length) = true := decide_eq_true (by omega)
                                              clear c81
                                              replace H := Option.bind_eq_some_iff.mp H
                                              obtain ⟨t371, A820, H⟩ := H
                                              replace H : (if 0 ≤ x145_6 then (if x145_6 < (y350.length : Int) then (if t371 = (rd y350 x145_6) then (laws_FnDrawGraphics.l1 k6 y350 t363 (y350.length : Int) (wrap64 (x145_6 + 1))) else (some false)) else (none)) else (none)) = some r := H
                                              have A82 := Aside0.mk A820
                                              clear A820
                                              by_cases c83 : 0 ≤ x145_6
                                              · rw [if_pos c83] at H
                                                have c83b0 : decide (0 ≤ x145_6) = true := decide_eq_true c83
                                                clear c83
                                                by_cases c84 : x145_6 < (y350.length : Int)
                                                · rw [if_pos c84] at H
                                                  have c84b0 : decide (x145_6 < (y350.length : Int)) = true := decide_eq_true c84
                                                  clear c84
                                                  by_cases c85 : t371 = (rd y350 x145_6)
                                                  · rw [if_pos c85] at H
                                                    have c85b0 : (t371 == (rd y350 x145_6)) = true := beq_iff_eq.mpr c85
                                                    have c85b1 : (t371 != (rd y350 x145_6)) = false := bne_eq_false_iff_eq.mpr c85
                                                    clear c85
                                                    have H' := Aside0.mk H
                                                    clear H
                                                    try go_wp2
                                                    have n0_ := Aside0.mk (Kd.R_drew HO_11.out)
                                                    have n1_ := Aside0.mk (Kd.S_drew HO_12.out)
                                                    have n2_ := Aside0.mk (blk_drew BK331.out)
                                                    have n3_ := Aside0.mk (below_drew1 HB.out)
                                                    clear HO_11
                                                    clear HO_12
                                                    clear BK331
                                                    clear HB
                                                    have HO_11 := n0_
                                                    have HO_12 := n1_
                                                    have BK331 := n2_
                                                    have HB := n3_
                                                    clear n0_ n1_ n2_ n3_
                                                    obtain ⟨Ao87, co87, eo87⟩ := Kd.S_slice HO_12.out
                                                    (first | subst eo87 | (injection eo87 with f1_ f2_ f3_; have f4_ := f1_.symm; have f5_ := f3_.symm; clear f1_ f2_ f3_; subst f4_; subst f5_))
                                                    have p370 : 0 ≤ (0 : Int) := (by omega)
                                                    have q370 : 0 < (t363.length : Int) := of_decide_eq_true (by first | (with_reducible assumption) | assumption)
                                                    obtain ⟨ad370, A370_4, c370_4, A370_5, c370_5, e370, hx370_0, hx370_1, hx370_2, hx370_3, hx370_4, hx370_5, hl370_4, hi370_4, hl370_5, hi370_5⟩ := at_T55 (Kd.S_reads' HO_12.out).2.2 0 p370 q370
                                                    cases e370
                                                    obtain ⟨ce370, hce370, hMe370, hcc370⟩ := Kd.S_get HO_12.out z55 0 p370 (by first | exact q370 | exact of_decide_eq_true (by first | (with_reducible assumption) | assumption) | (have e_ := (Kd.S_reads' HO_12.out).1; omega))
                                                    obtain ⟨ve370_4, ve370_5, rfl, ge370_4, ge370_5⟩ := k55_openM hMe370
                                                    have hv370_4 := hcc370 4 _ rfl
                                                    rw [add_field _ _ 4 (by omega)] at hv370_4
                                                    replace hv370_4 := Option.some.inj (hv370_4.symm.trans hx370_4)
                                                    rw [hv370_4] at ge370_4
                                                    have HL370_4 := Aside0.mk (show Kd.R (Kd.int .i64) 2 _ _ _ _ ((rd_T55 t363 0).f4) from ge370_4)
                                                    clear hv370_4 ge370_4
                                                    have hv370_5 := hcc370 5 _ rfl
                                                    rw [add_field _ _ 5 (by omega)] at hv370_5
                                                    replace hv370_5 := Option.some.inj (hv370_5.symm.trans hx370_5)
                                                    rw [hv370_5] at ge370_5
                                                    have HL370_5 := Aside0.mk (show Kd.R (Kd.int .u8) 5 _ _ _ _ ((rd_T55 t363 0).f5) from ge370_5)
                                                    clear hv370_5 ge370_5
                                                    clear hcc370 hce370
                                                    have qi370 : (0 < t363.length) = True := eq_true (by omega)
                                                    (try rw [show ((0 : Int)).toNat = 0 from rfl] at hx370_0)
                                                    (try rw [show 0 * 6 = 0 from rfl] at hx370_0)
                                                    (try rw [Addr.add_zero'] at hx370_0)
                                                    (try rw [show ((0 : Int)).toNat = 0 from rfl] at hx370_1)
                                                    (try rw [show 0 * 6 = 0 from rfl] at hx370_1)
                                                    (try rw [Addr.add_zero'] at hx370_1)
                                                    (try rw [show ((0 : Int)).toNat = 0 from rfl] at hx370_2)
                                                    (try rw [show 0 * 6 = 0 from rfl] at hx370_2)
                                                    (try rw [Addr.add_zero'] at hx370_2)
                                                    (try rw [show ((0 : Int)).toNat = 0 from rfl] at hx370_3)
                                                    (try rw [show 0 * 6 = 0 from rfl] at hx370_3)
                                                    (try rw [Addr.add_zero'] at hx370_3)
                                                    (try rw [show ((0 : Int)).toNat = 0 from rfl] at hx370_4)
                                                    (try rw [show 0 * 6 = 0 from rfl] at hx370_4)
                                                    (try rw [Addr.add_zero'] at hx370_4)
                                                    (try rw [show ((0 : Int)).toNat = 0 from rfl] at hx370_5)
                                                    (try rw [show 0 * 6 = 0 from rfl] at hx370_5)
                                                    (try rw [Addr.add_zero'] at hx370_5)
                                                    have HR370_4 := Aside0.mk hi370_4
                                                    have HC370_4 := Aside0.mk hl370_4
                                                    clear hi370_4 hl370_4
                                                    have HR370_5 := Aside0.mk hi370_5
                                                    have HC370_5 := Aside0.mk hl370_5
                                                    clear hi370_5 hl370_5
                                                    replace p370 := eq_true p370
                                                    replace q370 := eq_true q370
                                                    have p372 : 0 ≤ (x145_6 : Int) := of_decide_eq_true (by first | (with_reducible assumption) | assumption)
                                                    have q372 : x145_6 < (y350.length : Int) := of_decide_eq_true (by first | (with_reducible assumption) | assumption)
                                                    obtain ⟨ad372, e372, hx372_0⟩ := Kd.at_int (Kd.R_reads' HO_11.out).2.2 x145_6 p372 q372
                                                    obtain rfl : ad353 = ad372 := (by injection e372)
                                                    replace p372 := eq_true p372
                                                    replace q372 := eq_true q372
                                                    refine start_ (n := 11) (S := fun w' => w'.cell? ad370 = some (.int .i64 ((rd_T55 t363 0).f0)) ∧ w'.cell? ⟨ad370.block, ad370.off + 1, none⟩ = some (.int .i64 ((rd_T55 t363 0).f1)) ∧ w'.cell? ⟨ad370.block, ad370.off + 2, none⟩ = some (.int .u8 ((rd_T55 t363 0).f2)) ∧ w'.cell? ⟨ad370.block, ad370.off + 3, none⟩ = some (.int .i64 ((rd_T55 t363 0).f3)) ∧ w'.cell? ⟨ad370.block, ad370.off + 4, none⟩ = some (.slice A370_4 ((rd_T55 t363 0).f4).length c370_4) ∧ w'.cell? ⟨ad370.block, ad370.off + 5, none⟩ = some (.slice A370_5 ((rd_T55 t363 0).f5).length c370_5) ∧ w'.cell? (ad353.add (x145_6).toNat) = some (.int .i64 (rd y350 x145_6))) (ds := []) #[false, false, false, false, false, false, false, false, false, false, false] (by kernel_rfl) rfl rfl ⟨hx370_0, hx370_1, hx370_2, hx370_3, hx370_4, hx370_5, hx372_0⟩ (fun hHeld => ?_); refine with_tabW laws_FnDrawGraphics.tab25 laws_FnDrawGraphics.bits25 (fun HT_ HW_ => ?_)
                                                    generalize wr.drew = w86 at HO_11 HO_12 BK331 HB HL370_4 HL370_5 HR370_4 HR370_5 hx370_0 hx370_1 hx370_2 hx370_3 hx370_4 hx370_5 hx372_0 hHeld ⊢
                                                    refine pure_ (i := 0) (N := some 148) (v := ?_) (a' := ?_) #[true, false, false, false, false, false, false, false, false, false, false] rfl rfl (any_of HT_.out (by kernel_rfl)) (fun _ _ _ h => h) (Or.inl ⟨by rfl, ?_⟩) ?_ ?_
                                                    rotate_left
                                                    · intro w'
                                                      go_simp
                                                      with_reducible rfl
                                                    rotate_left
                                                    · simp only [Act.put, List.setIfInBounds_toArray, List.set_cons_zero, List.set_cons_succ, i64_w, i32_w]
                                                      rfl
                                                    refine pure_ (i := 1) (N := some 149) (v := ?_) (a' := ?_) #[true, true, false, false, false, false, false, false, false, false, false] rfl rfl (any_of HT_.out (by kernel_rfl)) (fun _ _ _ h => h) (Or.inl ⟨by rfl, ?_⟩) ?_ ?_
                                                    rotate_left
                                                    · intro w'
                                                      go_simp
                                                      with_reducible rfl
                                                    rotate_left
                                                    · simp only [Act.put, List.setIfInBounds_toArray, List.set_cons_zero, List.set_cons_succ, i64_w, i32_w]
                                                      rfl
                                                    refine pure_ (i := 2) (N := some 150) (v := ?_) (a' := ?_) #[true, true, true, false, false, false, false, false, false, false, false] rfl rfl (any_of HT_.out (by kernel_rfl)) (fun _ _ _ h => h) (Or.inl ⟨by rfl, ?_⟩) ?_ ?_
                                                    rotate_left
                                                    · intro w'
                                                      go_simp
                                                      with_reducible rfl
                                                    rotate_left
                                                    · simp only [Act.put, List.setIfInBounds_toArray, List.set_cons_zero, List.set_cons_succ, i64_w, i32_w]
                                                      rfl
                                                    refine pure_ (i := 4) (N := some 152) (v := ?_) (a' := ?_) #[true, true, true, false, true, false, false, false, false, false, false] rfl rfl (any_of HT_.out (by kernel_rfl)) (fun _ _ _ h => h) (Or.inl ⟨by rfl, ?_⟩) ?_ ?_
                                                    rotate_left
                                                    · intro w'
                                                      go_simp
                                                      with_reducible rfl
                                                    rotate_left
                                                    · simp only [Act.put, List.setIfInBounds_toArray, List.set_cons_zero, List.set_cons_succ, i64_w, i32_w]
                                                      rfl
                                                    refine pure_ (i := 6) (N := some 154) (v := ?_) (a' := ?_) #[true, true, true, false, true, false, true, false, false, false, false] rfl rfl (any_of HT_.out (by kernel_rfl)) (fun _ _ _ h => h) (Or.inl ⟨by rfl, ?_⟩) ?_ ?_
                                                    rotate_left
                                                    · intro w'
                                                      go_simp
                                                      with_reducible rfl
                                                    rotate_left
                                                    · simp only [Act.put, List.setIfInBounds_toArray, List.set_cons_zero, List.set_cons_succ, i64_w, i32_w]
                                                      rfl
                                                    refine pure_ (i := 7) (N := some 155) (v := ?_) (a' := ?_) #[true, true, true, false, true, false, true, true, false, false, false] rfl rfl (any_of HT_.out (by kernel_rfl)) (fun _ _ _ h => h) (Or.inl ⟨by rfl, ?_⟩) ?_ ?_
                                                    rotate_left
                                                    · intro w'
                                                      go_simp
                                                      with_reducible rfl
                                                    rotate_left
                                                    · simp only [Act.put, List.setIfInBounds_toArray, List.set_cons_zero, List.set_cons_succ, i64_w, i32_w]
                                                      rfl
                                                    refine pure_ (i := 8) (N := some 156) (v := ?_) (a' := ?_) #[true, true, true, false, true, false, true, true, true, false, false] rfl rfl (any_of HT_.out (by kernel_rfl)) (fun _ _ _ h => h) (Or.inl ⟨by rfl, ?_⟩) ?_ ?_
                                                    rotate_left
                                                    · intro w'
                                                      go_simp
                                                      with_reducible rfl
                                                    rotate_left
                                                    · simp only [Act.put, List.setIfInBounds_toArray, List.set_cons_zero, List.set_cons_succ, i64_w, i32_w]
                                                      rfl
                                                    refine take_ (i := 3) (N := some 151) (v := ?_) (a' := ?_) #[true, true, true, true, true, false, true, true, true, false, false] rfl rfl (take_ofW HT_.out HW_.out (by kernel_rfl)) (fun _ _ _ h => h) (Or.inl ⟨by rfl, ?_⟩) hHeld ?_ ?_
                                                    rotate_left
                                                    · rintro w' ⟨s0, s1, s2, s3, s4, s5, s6⟩
                                                      go_simp
                                                      with_reducible rfl
                                                    rotate_left
                                                    · simp only [Act.put, List.setIfInBounds_toArray, List.set_cons_zero, List.set_cons_succ, i64_w, i32_w]
                                                      rfl
                                                    refine take_ (i := 9) (N := some 157) (v := ?_) (a' := ?_) #[true, true, true, true, true, false, true, true, true, true, false] rfl rfl (take_ofW HT_.out HW_.out (by kernel_rfl)) (fun _ _ _ h => h) (Or.inl ⟨by rfl, ?_⟩) hHeld ?_ ?_
                                                    rotate_left
                                                    · rintro w' ⟨s0, s1, s2, s3, s4, s5, s6⟩
                                                      go_simp
                                                      with_reducible rfl
                                                    rotate_left
                                                    · simp only [Act.put, List.setIfInBounds_toArray, List.set_cons_zero, List.set_cons_succ, i64_w, i32_w]
                                                      rfl
                                                    refine one_ (i := 5) (N := some 153) #[true, true, true, true, true, true, true, true, true, true, false] rfl rfl (one_of HT_.out (by kernel_rfl)) (by decide) (fun K hK => ?_)
                                                    refine goes_ Tryz.func25 (by kernel_rfl) rfl #[.slice A370_4 ((rd_T55 t363 0).f4).length c370_4, .int .i64 x145_6, .int .i64 (-1)] (by rfl) rfl rfl (by (try simp only [List.map_toArray, List.map_cons, List.map_nil]); first | done | rfl | (simp only [List.length_drop, List.length_take]; rfl)) ?_
                                                    with_reducible refine (spec_DrawParam.calls _ _ ((rd_T55 t363 0).f4) x145_6 (-1) t371 _ ?side1 ?side2 A82.out).mono ?_
                                                    (case side1 => repeat (first | exact (by repeat (first | (with_reducible exact HR370_4.out) | (with_reducible refine Kd.C_alloc ?_ _) | (with_reducible refine Kd.C_drewN ?_ _) | (with_reducible refine Kd.C_drew ?_) | exact HR370_4.out)) | (with_reducible refine Kd.C_alloc ?_ _) | (with_reducible refine Kd.C_drewN ?_ _) | (with_reducible refine Kd.C_drew ?_)))
                                                    (case side2 => exact HC370_4.out)
                                                    rintro e w' ⟨rfl, ⟨nd, rfl⟩⟩
                                                    refine ⟨_, rfl, ?_⟩
                                                    refine hK.out _ _ ⟨hHeld.1, hHeld.2.1, hHeld.2.2.1, hHeld.2.2.2.1, hHeld.2.2.2.2.1, hHeld.2.2.2.2.2.1, hHeld.2.2.2.2.2.2⟩ (fun hHeld => ?_)
                                                    clear hK K
                                                    refine norm_ (a' := ?_) ?_ ?_
                                                    rotate_left
                                                    · show Act.put _ (some 153) _ = _
                                                      simp only [Act.put, List.setIfInBounds_toArray, List.set_cons_zero, List.set_cons_succ, i64_w, i32_w]
                                                      rfl
                                                    refine pure_ (i := 10) (N := some 158) (v := ?_) (a' := ?_) #[true, true, true, true, true, true, true, true, true, true, true] rfl rfl (any_of HT_.out (by kernel_rfl)) (fun _ _ _ h => h) (Or.inl ⟨by rfl, ?_⟩) ?_ ?_
                                                    rotate_left
                                                    · intro w'
                                                      go_simp
                                                      with_reducible rfl
                                                    rotate_left
                                                    · simp only [Act.put, List.setIfInBounds_toArray, List.set_cons_zero, List.set_cons_succ, i64_w, i32_w]
                                                      rfl
                                                    refine done_ (done_of HT_.out (by kernel_rfl)) ?_
                                                    try go_wp2
                                                    go_roundg k6
                                                    case measure => have := HJ3.out; have := HJ8.out; have := HK3.out; have := HJ29.out; have := HJ54.out; have := HK6.out; omega
                                                    case rel => exact ⟨(wrap64 (x145_6 + 1)), (by first | rfl | (simp; done) | (simp [*]; done)), H', ⟨by have := HJ3.out; have := HJ8.out; have := HK3.out; have := HJ29.out; have := HJ54.out; have := HK6.out; omega⟩, ⟨by (with_reducible repeat (first | apply Kd.R_alloc | apply Kd.R_drewN | apply Kd.R_drew)); exact HO_11.out⟩, ⟨by (with_reducible repeat (first | apply Kd.S_alloc | apply Kd.S_drewN | apply Kd.S_drew)); exact HO_12.out⟩, ⟨by (with_reducible repeat (first | refine blk_drewN ?_ _ | refine blk_drew ?_ | refine blk_alloc ?_ _)); exact BK331.out⟩, ⟨by repeat (first | (with_reducible first | exact HB.out | apply below_alloc | apply pw_below_drewN | apply below_drew1 | refine below_set ?_ GE331.out) | exact HB.out)⟩⟩
                                                  · rw [if_neg c85] at H
                                                    have c85b0 : (t371 == (rd y350 x145_6)) = false := beq_eq_false_iff_ne.mpr c85
                                                    have c85b1 : (t371 != (rd y350 x145_6)) = true := bne_iff_ne.mpr c85
                                                    obtain rfl := Option.some.inj H
                                                    try go_wp2
                                                    have n0_ := Aside0.mk (Kd.R_drew HO_11.out)
                                                    have n1_ := Aside0.mk (Kd.S_drew HO_12.out)
                                                    have n2_ := Aside0.mk (blk_drew BK331.out)
                                                    have n3_ := Aside0.mk (below_drew1 HB.out)
                                                    clear HO_11
                                                    clear HO_12
                                                    clear BK331
                                                    clear HB
                                                    have HO_11 := n0_
                                                    have HO_12 := n1_
                                                    have BK331 := n2_
                                                    have HB := n3_
                                                    clear n0_ n1_ n2_ n3_
                                                    obtain ⟨Ao89, co89, eo89⟩ := Kd.S_slice HO_12.out
                                                    (first | subst eo89 | (injection eo89 with f1_ f2_ f3_; have f4_ := f1_.symm; have f5_ := f3_.symm; clear f1_ f2_ f3_; subst f4_; subst f5_))
                                                    have p370 : 0 ≤ (0 : Int) := (by omega)
                                                    have q370 : 0 < (t363.length : Int) := of_decide_eq_true (by first | (with_reducible assumption) | assumption)
                                                    obtain ⟨ad370, A370_4, c370_4, A370_5, c370_5, e370, hx370_0, hx370_1, hx370_2, hx370_3, hx370_4, hx370_5, hl370_4, hi370_4, hl370_5, hi370_5⟩ := at_T55 (Kd.S_reads' HO_12.out).2.2 0 p370 q370
                                                    cases e370
                                                    obtain ⟨ce370, hce370, hMe370, hcc370⟩ := Kd.S_get HO_12.out z55 0 p370 (by first | exact q370 | exact of_decide_eq_true (by first | (with_reducible assumption) | assumption) | (have e_ := (Kd.S_reads' HO_12.out).1; omega))
                                                    obtain ⟨ve370_4, ve370_5, rfl, ge370_4, ge370_5⟩ := k55_openM hMe370
                                                    have hv370_4 := hcc370 4 _ rfl
                                                    rw [add_field _ _ 4 (by omega)] at hv370_4
                                                    replace hv370_4 := Option.some.inj (hv370_4.symm.trans hx370_4)
                                                    rw [hv370_4] at ge370_4
                                                    have HL370_4 := Aside0.mk (show Kd.R (Kd.int .i64) 2 _ _ _ _ ((rd_T55 t363 0).f4) from ge370_4)
                                                    clear hv370_4 ge370_4
                                                    have hv370_5 := hcc370 5 _ rfl
                                                    rw [add_field _ _ 5 (by omega)] at hv370_5
                                                    replace hv370_5 := Option.some.inj (hv370_5.symm.trans hx370_5)
                                                    rw [hv370_5] at ge370_5
                                                    have HL370_5 := Aside0.mk (show Kd.R (Kd.int .u8) 5 _ _ _ _ ((rd_T55 t363 0).f5) from ge370_5)
                                                    clear hv370_5 ge370_5
                                                    clear hcc370 hce370
                                                    have qi370 : (0 < t363.length) = True := eq_true (by omega)
                                                    (try rw [show ((0 : Int)).toNat = 0 from rfl] at hx370_0)
                                                    (try rw [show 0 * 6 = 0 from rfl] at hx370_0)
                                                    (try rw [Addr.add_zero'] at hx370_0)
                                                    (try rw [show ((0 : Int)).toNat = 0 from rfl] at hx370_1)
                                                    (try rw [show 0 * 6 = 0 from rfl] at hx370_1)
                                                    (try rw [Addr.add_zero'] at hx370_1)
                                                    (try rw [show ((0 : Int)).toNat = 0 from rfl] at hx370_2)
                                                    (try rw [show 0 * 6 = 0 from rfl] at hx370_2)
                                                    (try rw [Addr.add_zero'] at hx370_2)
                                                    (try rw [show ((0 : Int)).toNat = 0 from rfl] at hx370_3)
                                                    (try rw [show 0 * 6 = 0 from rfl] at hx370_3)
                                                    (try rw [Addr.add_zero'] at hx370_3)
                                                    (try rw [show ((0 : Int)).toNat = 0 from rfl] at hx370_4)
                                                    (try rw [show 0 * 6 = 0 from rfl] at hx370_4)
                                                    (try rw [Addr.add_zero'] at hx370_4)
                                                    (try rw [show ((0 : Int)).toNat = 0 from rfl] at hx370_5)
                                                    (try rw [show 0 * 6 = 0 from rfl] at hx370_5)
                                                    (try rw [Addr.add_zero'] at hx370_5)
                                                    have HR370_4 := Aside0.mk hi370_4
                                                    have HC370_4 := Aside0.mk hl370_4
                                                    clear hi370_4 hl370_4
                                                    have HR370_5 := Aside0.mk hi370_5
                                                    have HC370_5 := Aside0.mk hl370_5
                                                    clear hi370_5 hl370_5
                                                    replace p370 := eq_true p370
                                                    replace q370 := eq_true q370
                                                    have p372 : 0 ≤ (x145_6 : Int) := of_decide_eq_true (by first | (with_reducible assumption) | assumption)
                                                    have q372 : x145_6 < (y350.length : Int) := of_decide_eq_true (by first | (with_reducible assumption) | assumption)
                                                    obtain ⟨ad372, e372, hx372_0⟩ := Kd.at_int (Kd.R_reads' HO_11.out).2.2 x145_6 p372 q372
                                                    obtain rfl : ad353 = ad372 := (by injection e372)
                                                    replace p372 := eq_true p372
                                                    replace q372 := eq_true q372
                                                    refine start_ (n := 11) (S := fun w' => w'.cell? ad370 = some (.int .i64 ((rd_T55 t363 0).f0)) ∧ w'.cell? ⟨ad370.block, ad370.off + 1, none⟩ = some (.int .i64 ((rd_T55 t363 0).f1)) ∧ w'.cell? ⟨ad370.block, ad370.off + 2, none⟩ = some (.int .u8 ((rd_T55 t363 0).f2)) ∧ w'.cell? ⟨ad370.block, ad370.off + 3, none⟩ = some (.int .i64 ((rd_T55 t363 0).f3)) ∧ w'.cell? ⟨ad370.block, ad370.off + 4, none⟩ = some (.slice A370_4 ((rd_T55 t363 0).f4).length c370_4) ∧ w'.cell? ⟨ad370.block, ad370.off + 5, none⟩ = some (.slice A370_5 ((rd_T55 t363 0).f5).length c370_5) ∧ w'.cell? (ad353.add (x145_6).toNat) = some (.int .i64 (rd y350 x145_6))) (ds := []) #[false, false, false, false, false, false, false, false, false, false, false] (by kernel_rfl) rfl rfl ⟨hx370_0, hx370_1, hx370_2, hx370_3, hx370_4, hx370_5, hx372_0⟩ (fun hHeld => ?_); refine with_tabW laws_FnDrawGraphics.tab25 laws_FnDrawGraphics.bits25 (fun HT_ HW_ => ?_)
                                                    generalize wr.drew = w88 at HO_11 HO_12 BK331 HB HL370_4 HL370_5 HR370_4 HR370_5 hx370_0 hx370_1 hx370_2 hx370_3 hx370_4 hx370_5 hx372_0 hHeld ⊢
                                                    refine pure_ (i := 0) (N := some 148) (v := ?_) (a' := ?_) #[true, false, false, false, false, false, false, false, false, false, false] rfl rfl (any_of HT_.out (by kernel_rfl)) (fun _ _ _ h => h) (Or.inl ⟨by rfl, ?_⟩) ?_ ?_
                                                    rotate_left
                                                    · intro w'
                                                      go_simp
                                                      with_reducible rfl
                                                    rotate_left
                                                    · simp only [Act.put, List.setIfInBounds_toArray, List.set_cons_zero, List.set_cons_succ, i64_w, i32_w]
                                                      rfl
                                                    refine pure_ (i := 1) (N := some 149) (v := ?_) (a' := ?_) #[true, true, false, false, false, false, false, false, false, false, false] rfl rfl (any_of HT_.out (by kernel_rfl)) (fun _ _ _ h => h) (Or.inl ⟨by rfl, ?_⟩) ?_ ?_
                                                    rotate_left
                                                    · intro w'
                                                      go_simp
                                                      with_reducible rfl
                                                    rotate_left
                                                    · simp only [Act.put, List.setIfInBounds_toArray, List.set_cons_zero, List.set_cons_succ, i64_w, i32_w]
                                                      rfl
                                                    refine pure_ (i := 2) (N := some 150) (v := ?_) (a' := ?_) #[true, true, true, false, false, false, false, false, false, false, false] rfl rfl (any_of HT_.out (by kernel_rfl)) (fun _ _ _ h => h) (Or.inl ⟨by rfl, ?_⟩) ?_ ?_
                                                    rotate_left
                                                    · intro w'
                                                      go_simp
                                                      with_reducible rfl
                                                    rotate_left
                                                    · simp only [Act.put, List.setIfInBounds_toArray, List.set_cons_zero, List.set_cons_succ, i64_w, i32_w]
                                                      rfl
                                                    refine pure_ (i := 4) (N := some 152) (v := ?_) (a' := ?_) #[true, true, true, false, true, false, false, false, false, false, false] rfl rfl (any_of HT_.out (by kernel_rfl)) (fun _ _ _ h => h) (Or.inl ⟨by rfl, ?_⟩) ?_ ?_
                                                    rotate_left
                                                    · intro w'
                                                      go_simp
                                                      with_reducible rfl
                                                    rotate_left
                                                    · simp only [Act.put, List.setIfInBounds_toArray, List.set_cons_zero, List.set_cons_succ, i64_w, i32_w]
                                                      rfl
                                                    refine pure_ (i := 6) (N := some 154) (v := ?_) (a' := ?_) #[true, true, true, false, true, false, true, false, false, false, false] rfl rfl (any_of HT_.out (by kernel_rfl)) (fun _ _ _ h => h) (Or.inl ⟨by rfl, ?_⟩) ?_ ?_
                                                    rotate_left
                                                    · intro w'
                                                      go_simp
                                                      with_reducible rfl
                                                    rotate_left
                                                    · simp only [Act.put, List.setIfInBounds_toArray, List.set_cons_zero, List.set_cons_succ, i64_w, i32_w]
                                                      rfl
                                                    refine pure_ (i := 7) (N := some 155) (v := ?_) (a' := ?_) #[true, true, true, false, true, false, true, true, false, false, false] rfl rfl (any_of HT_.out (by kernel_rfl)) (fun _ _ _ h => h) (Or.inl ⟨by rfl, ?_⟩) ?_ ?_
                                                    rotate_left
                                                    · intro w'
                                                      go_simp
                                                      with_reducible rfl
                                                    rotate_left
                                                    · simp only [Act.put, List.setIfInBounds_toArray, List.set_cons_zero, List.set_cons_succ, i64_w, i32_w]
                                                      rfl
                                                    refine pure_ (i := 8) (N := some 156) (v := ?_) (a' := ?_) #[true, true, true, false, true, false, true, true, true, false, false] rfl rfl (any_of HT_.out (by kernel_rfl)) (fun _ _ _ h => h) (Or.inl ⟨by rfl, ?_⟩) ?_ ?_
                                                    rotate_left
                                                    · intro w'
                                                      go_simp
                                                      with_reducible rfl
                                                    rotate_left
                                                    · simp only [Act.put, List.setIfInBounds_toArray, List.set_cons_zero, List.set_cons_succ, i64_w, i32_w]
                                                      rfl
                                                    refine take_ (i := 3) (N := some 151) (v := ?_) (a' := ?_) #[true, true, true, true, true, false, true, true, true, false, false] rfl rfl (take_ofW HT_.out HW_.out (by kernel_rfl)) (fun _ _ _ h => h) (Or.inl ⟨by rfl, ?_⟩) hHeld ?_ ?_
                                                    rotate_left
                                                    · rintro w' ⟨s0, s1, s2, s3, s4, s5, s6⟩
                                                      go_simp
                                                      with_reducible rfl
                                                    rotate_left
                                                    · simp only [Act.put, List.setIfInBounds_toArray, List.set_cons_zero, List.set_cons_succ, i64_w, i32_w]
                                                      rfl
                                                    refine take_ (i := 9) (N := some 157) (v := ?_) (a' := ?_) #[true, true, true, true, true, false, true, true, true, true, false] rfl rfl (take_ofW HT_.out HW_.out (by kernel_rfl)) (fun _ _ _ h => h) (Or.inl ⟨by rfl, ?_⟩) hHeld ?_ ?_
                                                    rotate_left
                                                    · rintro w' ⟨s0, s1, s2, s3, s4, s5, s6⟩
                                                      go_simp
                                                      with_reducible rfl
                                                    rotate_left
                                                    · simp only [Act.put, List.setIfInBounds_toArray, List.set_cons_zero, List.set_cons_succ, i64_w, i32_w]
                                                      rfl
                                                    refine one_ (i := 5) (N := some 153) #[true, true, true, true, true, true, true, true, true, true, false] rfl rfl (one_of HT_.out (by kernel_rfl)) (by decide) (fun K hK => ?_)
                                                    refine goes_ Tryz.func25 (by kernel_rfl) rfl #[.slice A370_4 ((rd_T55 t363 0).f4).length c370_4, .int .i64 x145_6, .int .i64 (-1)] (by rfl) rfl rfl (by (try simp only [List.map_toArray, List.map_cons, List.map_nil]); first | done | rfl | (simp only [List.length_drop, List.length_take]; rfl)) ?_
                                                    with_reducible refine (spec_DrawParam.calls _ _ ((rd_T55 t363 0).f4) x145_6 (-1) t371 _ ?side1 ?side2 A82.out).mono ?_
                                                    (case side1 => repeat (first | exact (by repeat (first | (with_reducible exact HR370_4.out) | (with_reducible refine Kd.C_alloc ?_ _) | (with_reducible refine Kd.C_drewN ?_ _) | (with_reducible refine Kd.C_drew ?_) | exact HR370_4.out)) | (with_reducible refine Kd.C_alloc ?_ _) | (with_reducible refine Kd.C_drewN ?_ _) | (with_reducible refine Kd.C_drew ?_)))
                                                    (case side2 => exact HC370_4.out)
                                                    rintro e w' ⟨rfl, ⟨nd, rfl⟩⟩
                                                    refine ⟨_, rfl, ?_⟩
                                                    refine hK.out _ _ ⟨hHeld.1, hHeld.2.1, hHeld.2.2.1, hHeld.2.2.2.1, hHeld.2.2.2.2.1, hHeld.2.2.2.2.2.1, hHeld.2.2.2.2.2.2⟩ (fun hHeld => ?_)
                                                    clear hK K
                                                    refine norm_ (a' := ?_) ?_ ?_
                                                    rotate_left
                                                    · show Act.put _ (some 153) _ = _
                                                      simp only [Act.put, List.setIfInBounds_toArray, List.set_cons_zero, List.set_cons_succ, i64_w, i32_w]
                                                      rfl
                                                    refine pure_ (i := 10) (N := some 158) (v := ?_) (a' := ?_) #[true, true, true, true, true, true, true, true, true, true, true] rfl rfl (any_of HT_.out (by kernel_rfl)) (fun _ _ _ h => h) (Or.inl ⟨by rfl, ?_⟩) ?_ ?_
                                                    rotate_left
                                                    · intro w'
                                                      go_simp
                                                      with_reducible rfl
                                                    rotate_left
                                                    · simp only [Act.put, List.setIfInBounds_toArray, List.set_cons_zero, List.set_cons_succ, i64_w, i32_w]
                                                      rfl
                                                    refine done_ (done_of HT_.out (by kernel_rfl)) ?_
                                                    try go_wp2
                                                    go_ret
                                                    exact ⟨by first | rfl | (simp [errW_none, errW_some] <;> rfl) | (simp [*, errW_none, errW_some] <;> rfl), by repeat (first | (with_reducible first | exact HB.out | apply below_alloc | apply pw_below_drewN | apply below_drew1 | refine below_set ?_ GE331.out) | exact HB.out)⟩
                                                · rw [if_neg c84] at H
                                                  exact absurd H (by simp)
                                              · rw [if_neg c83] at H
                                                exact absurd H (by simp)
                                            · rw [if_neg c81] at H
                                              exact absurd H (by simp)
                                          · rw [if_neg c80] at H
                                            have c80b0 : decide (x145_6 < (y350.length : Int)) = false := decide_eq_false c80
                                            clear c80
                                            replace H := Option.bind_eq_some_iff.mp H
                                            obtain ⟨t373, A900, H⟩ := H
                                            replace H : (some t373) = some r := H
                                            have A90 := Aside0.mk A900
                                            clear A900
                                            obtain rfl := Option.some.inj H
                                            go_wp2_with (first | ((with_reducible refine gate_callee (f := 8) rfl ?_); refine goesL_ (some 160) rfl rfl Tryz.func8 (by kernel_rfl) rfl #[] rfl (by (try simp only [List.map_toArray, List.map_cons, List.map_nil]); first | done | rfl | (simp only [List.length_drop, List.length_take]; rfl)) ?_; (with_reducible refine (laws_drawAwake.calls  t373 _ ?side1 A90.out).mono ?_); (case side1 => exact XTab.below HT.out (by repeat (first | (with_reducible first | exact HB.out | apply below_alloc | apply pw_below_drewN | apply below_drew1 | refine below_set ?_ GE331.out) | exact HB.out))); rintro e w91 ⟨rfl, hb⟩; refine ⟨_, rfl, ?_⟩; have n0_ := Aside0.mk (Kd.R_below (by (with_reducible repeat (first | apply Kd.R_alloc | apply Kd.R_drewN | apply Kd.R_drew)); exact HO_11.out) hb); have n1_ := Aside0.mk (Kd.S_below (by (with_reducible repeat (first | apply Kd.S_alloc | apply Kd.S_drewN | apply Kd.S_drew)); exact HO_12.out) hb); have n2_ := Aside0.mk (blk_below (g := gb331) (o := .cells #[.int .u8 a2_0, .int .u8 a2_1, .int .u8 a2_2] 50 (0, 0)) (by (with_reducible repeat (first | refine blk_drewN ?_ _ | refine blk_drew ?_ | refine blk_alloc ?_ _)); exact BK331.out) hb); have n3_ := Aside0.mk (below_step (by repeat (first | (with_reducible first | exact HB.out | apply below_alloc | apply pw_below_drewN | apply below_drew1 | refine below_set ?_ GE331.out) | exact HB.out)) hb); clear HO_11; clear HO_12; clear BK331; clear HB; have HO_11 := n0_; have HO_12 := n1_; have BK331 := n2_; have HB := n3_; clear n0_ n1_ n2_ n3_; (try clear hb); (try clear hb2); (try clear hk); (try clear hi)))
                                            go_ret
                                            exact ⟨by first | rfl | (simp [errW_none, errW_some] <;> rfl) | (simp [*, errW_none, errW_some] <;> rfl), by repeat (first | (with_reducible first | exact HB.out | apply below_alloc | apply pw_below_drewN | apply below_drew1 | refine below_set ?_ GE331.out) | exact HB.out)⟩
                              · rw [if_neg c50] at H
                                exact absurd H (by simp)
                            · rw [if_neg c49] at H
                              exact absurd H (by simp)
                          · rw [if_neg c48] at H
                            exact absurd H (by simp)
end Go.Proofs.YtjkjnhcnmjknmaaGreatDoor.Y
end
