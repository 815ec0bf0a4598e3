/- Texts of this claim, joined: Y46. Of each, what the claim uses. -/
import Derived.Test.YtkklhlakklcnbaaDoorKaq
import Derived.Test.YtkklhlakklcnbaaDoorKac
import Derived.Test.YtkklhlakklcnbaaDoorKas
import Derived.Test.YtkklhlakklcnbaaDoorKat
import Derived.Test.YtkklhlakklcnbaaDoorKar
section
namespace Go.Proofs.YtkklhlakklcnbaaDoor.Y
open Go.RowKit Go.Proofs.YtkklhlakklcnbaaDoorW.PrintWords Go.Proofs.YtkklhlakklcnbaaDoorW.PrintLast Go.Proofs.YtkklhlakklcnbaaDoorW.PrintMore
attribute [local go_sem] max2_int min2_int max_two min_two max_three min_three max_four min_four   -- for this text's walks alone
set_option linter.unusedVariables false
set_option linter.unusedSimpArgs false
set_option maxHeartbeats 40000000 in
set_option maxRecDepth 100000 in
theorem laws_FnDrawKeys.calls (k : Nat) (A0 : Option Addr) (c0 : Nat) (l0 : List Int) (A1 : Option Addr) (c1 : Nat) (l1 : List Bool) (r : Bool) (w : World) (hT : XTab w) (hr0 : Kd.C (Kd.int .i64) w A0 l0.length l0) (hc0 : l0.length ≤ c0) (hr1 : Kd.C Kd.bool w A1 l1.length l1) (hc1 : l1.length ≤ c1) (h : laws_FnDrawKeys.f k l0 l1 = some r) :
    Calls Tryd.prog 3 #[.slice A0 l0.length c0, .slice A1 l1.length c1] w fun e w' => e = .returned (.bool r) ∧ Below w.heap.size w w' := by
  have hu30 := Tryd.underlying30
  have HT := Aside0.mk hT
  clear hT
  have HR0 := Aside0.mk hr0
  have HC0 := Aside0.mk hc0
  clear hr0 hc0
  have HR1 := Aside0.mk hr1
  have HC1 := Aside0.mk hc1
  clear hr1 hc1
  have HB := Aside0.mk (Below.refl w.heap.size w)
  have H : (if (l0.length : Int) > 2147483647 then (laws_FnDrawKeys.j0 k l0 l1 true) else (laws_FnDrawKeys.j0 k l0 l1 (decide ((l1.length : Int) > 2147483647)))) = some r := h
  clear h
  have HC3 := Aside0.mk H
  clear H
  go_enter Tryd.func3, Tryd.ntmps3
  go_upto_region 1 with (fail)
  go_cut [22] (fun v22 wc => ∃ (kq : Nat) (x22_2 : Bool), v22 = .bool x22_2 ∧ Aside0 (laws_FnDrawKeys.j0 kq l0 l1 x22_2 = some r) ∧ Aside0 (kq ≤ k) ∧ Aside0 (Below w.heap.size w wc))
  case first =>
    have H := HC3.out
    clear HC3
    by_cases c4 : (l0.length : Int) > 2147483647
    · rw [if_pos c4] at H
      have c4b0 : decide (2147483647 < (l0.length : Int)) = true := decide_eq_true c4
      have c4b1 : decide (2147483647 < l0.length) = true := decide_eq_true (by omega)
      clear c4
      (first | rw [c4b0] | (simp only [i64_w, i32_w]; rw [c4b0]) | skip)
      have H' := Aside0.mk H
      clear H
      go_wp2
      go_meet
      case rel => exact ⟨_, (true), (by first | rfl | (simp; done) | (simp [*]; done)), H', ⟨by first | omega | exact Nat.le_refl _⟩, ⟨by repeat (first | (with_reducible first | exact HB.out | apply below_alloc | apply pw_below_drewN | apply below_drew1) | exact HB.out)⟩⟩
    · rw [if_neg c4] at H
      have c4b0 : decide (2147483647 < (l0.length : Int)) = false := decide_eq_false c4
      have c4b1 : decide (2147483647 < l0.length) = false := decide_eq_false (by omega)
      clear c4
      (first | rw [c4b0] | (simp only [i64_w, i32_w]; rw [c4b0]) | skip)
      have H' := Aside0.mk H
      clear H
      go_wp2
      go_meet
      case rel => exact ⟨_, (decide ((l1.length : Int) > 2147483647)), (by first | rfl | (simp; done) | (simp [*]; done)), H', ⟨by first | omega | exact Nat.le_refl _⟩, ⟨by repeat (first | (with_reducible first | exact HB.out | apply below_alloc | apply pw_below_drewN | apply below_drew1) | exact HB.out)⟩⟩
  case rest => as_aux_lemma =>
    clear HC3
    try clear c1
    try clear p2
    try clear c3
    try clear c4
    try clear c4b0
    try clear c4b1
    obtain ⟨kq, x22_2, rfl, HA, HJ2, HB⟩ := hcut
    cases kq with
    | zero => exact absurd HA.out (by simp [laws_FnDrawKeys.j0])
    | succ kj2 =>
      have H := HA.out
      clear HA
      simp only [laws_FnDrawKeys.j0] at H
      by_cases c5 : x22_2 = true
      · subst c5
        have H1 : (some true) = some r := by rw [if_pos rfl] at H; exact H
        clear H
        have H := H1
        clear H1
        obtain rfl := Option.some.inj H
        go_wp2
        go_ret
        exact ⟨by first | rfl | (simp [errW_none, errW_some] <;> rfl) | (simp [*, errW_none, errW_some] <;> rfl), by repeat (first | (with_reducible first | exact HB.out | apply below_alloc | apply pw_below_drewN | apply below_drew1) | exact HB.out)⟩
      · replace c5 := Bool.eq_false_iff.mpr c5
        subst c5
        have H1 : (if (l0.length : Int) < 1 then (laws_FnDrawKeys.j1 kj2 l0 l1 true) else (if (l0.length : Int) > 10 then (laws_FnDrawKeys.j1 kj2 l0 l1 true) else (laws_FnDrawKeys.j1 kj2 l0 l1 ((l1.length : Int) != (l0.length : Int))))) = some r := by rw [if_neg (show ¬ (false = true) by decide)] at H; exact H
        clear H
        have H := H1
        clear H1
        have HC6 := Aside0.mk H
        clear H
        go_upto_region 3 with (fail)
        go_cut [37] (fun v37 wc => ∃ (kq : Nat) (x37_5 : Bool), v37 = .bool x37_5 ∧ Aside0 (laws_FnDrawKeys.j1 kq l0 l1 x37_5 = some r) ∧ Aside0 (kq ≤ kj2) ∧ Aside0 (Below w.heap.size w wc))
        case first =>
          have H := HC6.out
          clear HC6
          by_cases c7 : (l0.length : Int) < 1
          · rw [if_pos c7] at H
            have c7b0 : decide ((l0.length : Int) < 1) = true := decide_eq_true c7
            have c7b1 : decide (l0.length < 1) = true := decide_eq_true (by omega)
            clear c7
            (first | rw [c7b0] | (simp only [i64_w, i32_w]; rw [c7b0]) | skip)
            have H' := Aside0.mk H
            clear H
            go_wp2
            go_meet
            case rel => exact ⟨_, (true), (by first | rfl | (simp; done) | (simp [*]; done)), H', ⟨by have := HJ2.out; first | omega | exact Nat.le_refl _⟩, ⟨by repeat (first | (with_reducible first | exact HB.out | apply below_alloc | apply pw_below_drewN | apply below_drew1) | exact HB.out)⟩⟩
          · rw [if_neg c7] at H
            have c7b0 : decide ((l0.length : Int) < 1) = false := decide_eq_false c7
            have c7b1 : decide (l0.length < 1) = false := decide_eq_false (by omega)
            clear c7
            (first | rw [c7b0] | (simp only [i64_w, i32_w]; rw [c7b0]) | skip)
            by_cases c8 : (l0.length : Int) > 10
            · rw [if_pos c8] at H
              have c8b0 : decide (10 < (l0.length : Int)) = true := decide_eq_true c8
              have c8b1 : decide (10 < l0.length) = true := decide_eq_true (by omega)
              clear c8
              have H' := Aside0.mk H
              clear H
              go_wp2
              go_meet
              case rel => exact ⟨_, (true), (by first | rfl | (simp; done) | (simp [*]; done)), H', ⟨by have := HJ2.out; first | omega | exact Nat.le_refl _⟩, ⟨by repeat (first | (with_reducible first | exact HB.out | apply below_alloc | apply pw_below_drewN | apply below_drew1) | exact HB.out)⟩⟩
            · rw [if_neg c8] at H
              have c8b0 : decide (10 < (l0.length : Int)) = false := decide_eq_false c8
              have c8b1 : decide (10 < l0.length) = false := decide_eq_false (by omega)
              clear c8
              have H' := Aside0.mk H
              clear H
              go_wp2
              go_meet
              case rel => exact ⟨_, (((l1.length : Int) != (l0.length : Int))), (by first | rfl | (simp; done) | (simp [*]; done)), H', ⟨by have := HJ2.out; first | omega | exact Nat.le_refl _⟩, ⟨by repeat (first | (with_reducible first | exact HB.out | apply below_alloc | apply pw_below_drewN | apply below_drew1) | exact HB.out)⟩⟩
        case rest => as_aux_lemma =>
          clear HC6
          try clear c1
          try clear p2
          try clear c3
          try clear c4
          try clear c4b0
          try clear c4b1
          try clear c5
          try clear c7
          try clear c7b0
          try clear c7b1
          try clear c8
          try clear c8b0
          try clear c8b1
          try clear p2
          obtain ⟨kq, x37_5, rfl, HA, HJ5, HB⟩ := hcut
          cases kq with
          | zero => exact absurd HA.out (by simp [laws_FnDrawKeys.j1])
          | succ kj5 =>
            have H := HA.out
            clear HA
            simp only [laws_FnDrawKeys.j1] at H
            by_cases c9 : x37_5 = true
            · subst c9
              have H1 : ((laws_drawAwake.f).bind fun t137 => (some t137)) = some r := by rw [if_pos rfl] at H; exact H
              clear H
              have H := H1
              clear H1
              replace H := Option.bind_eq_some_iff.mp H
              obtain ⟨t137, A100, H⟩ := H
              replace H : (some t137) = some r := H
              have A10 := Aside0.mk A100
              clear A100
              obtain rfl := Option.some.inj H
              go_wp2_with (first | ((with_reducible refine gate_callee (f := 4) rfl ?_); refine goesL_ (some 38) rfl rfl Tryd.func4 (by kernel_rfl) rfl #[] rfl (by (try simp only [List.map_toArray, List.map_cons, List.map_nil]); first | done | rfl | (simp only [List.length_drop, List.length_take]; rfl)) ?_; (with_reducible refine (laws_drawAwake.calls  t137 _ ?side1 A10.out).mono ?_); (case side1 => exact XTab.below HT.out (by repeat (first | (with_reducible first | exact HB.out | apply below_alloc | apply pw_below_drewN | apply below_drew1) | exact HB.out))); rintro e w11 ⟨rfl, hb⟩; refine ⟨_, rfl, ?_⟩; have n0_ := Aside0.mk (below_step (by repeat (first | (with_reducible first | exact HB.out | apply below_alloc | apply pw_below_drewN | apply below_drew1) | exact HB.out)) hb); clear HB; have HB := n0_; clear n0_; (try clear hb); (try clear hb2); (try clear hk); (try clear hi)))
              go_ret
              exact ⟨by first | rfl | (simp [errW_none, errW_some] <;> rfl) | (simp [*, errW_none, errW_some] <;> rfl), by repeat (first | (with_reducible first | exact HB.out | apply below_alloc | apply pw_below_drewN | apply below_drew1) | exact HB.out)⟩
            · replace c9 := Bool.eq_false_iff.mpr c9
              subst c9
              have H1 : (laws_FnDrawKeys.l0 kj5 l1 ([] : List Int) (⟨#[]⟩ : ByteArray) l0 (l0.length : Int) 0) = some r := by rw [if_neg (show ¬ (false = true) by decide)] at H; exact H
              clear H
              have H := H1
              clear H1
              have H' := Aside0.mk H
              clear H
              go_wp2
              go_loopg [5, 7, 41] kj5 (fun kq v5 v7 v41 w' => ∃ (x5_3 : List Int) (x7_3 : ByteArray) (x41_3 : Int), v7 = .string x7_3 ∧ v41 = .int .i64 x41_3 ∧ Aside0 (laws_FnDrawKeys.l0 kq l1 x5_3 x7_3 l0 (l0.length : Int) x41_3 = some r) ∧ Aside0 (kq ≤ kj5) ∧ Aside0 (Kd.R (Kd.int .i64) 2 w' w.heap.size (fun _ => True) v5 x5_3) ∧ Aside0 (Below w.heap.size w w'))
              case atStart => exact ⟨(([] : List Int)), ((⟨#[]⟩ : ByteArray)), (0), (by first | rfl | (simp; done) | (simp [*]; done)), (by first | rfl | (simp; done) | (simp [*]; done)), H', ⟨Nat.le_refl _⟩, ⟨by first | exact Kd.R_nil _ _ _ _ _ | exact Kd.N_nil _ _ _ _ _ | exact Kd.V_nil _ _ _ _ _ | exact Kd.Q_nil _ _ _ _ _ | exact Kd.S_nil _ _ _ _ _⟩, ⟨by repeat (first | (with_reducible first | exact HB.out | apply below_alloc | apply pw_below_drewN | apply below_drew1) | exact HB.out)⟩⟩
              case round =>
                clear H'
                try clear c1
                try clear p2
                try clear c3
                try clear c4
                try clear c4b0
                try clear c4b1
                try clear c5
                try clear c7
                try clear c7b0
                try clear c7b1
                try clear c8
                try clear c8b0
                try clear c8b1
                try clear c9
                try clear p2
                obtain ⟨x5_3, x7_3, x41_3, rfl, rfl, HA, HK3, HO_5, HB⟩ := hrel
                cases gk with
                | zero => exact absurd HA.out (by simp [laws_FnDrawKeys.l0])
                | succ k3 =>
                  have H := HA.out
                  clear HA
                  simp only [laws_FnDrawKeys.l0] at H
                  by_cases c12 : x41_3 < (l0.length : Int)
                  · rw [if_pos c12] at H
                    have c12b0 : decide (x41_3 < (l0.length : Int)) = true := decide_eq_true c12
                    clear c12
                    by_cases c13 : 0 ≤ x41_3
                    · rw [if_pos c13] at H
                      have c13b0 : decide (0 ≤ x41_3) = true := decide_eq_true c13
                      clear c13
                      by_cases c14 : x41_3 < (l0.length : Int)
                      · rw [if_pos c14] at H
                        have c14b0 : decide (x41_3 < (l0.length : Int)) = true := decide_eq_true c14
                        clear c14
                        have HC15 := Aside0.mk H
                        clear H
                        have p138 : 0 ≤ (x41_3 : Int) := of_decide_eq_true (by first | (with_reducible assumption) | assumption)
                        have q138 : x41_3 < (l0.length : Int) := of_decide_eq_true (by first | (with_reducible assumption) | assumption)
                        obtain ⟨ad138, e138, hx138_0⟩ := Kd.at_int HR0.out x41_3 p138 q138
                        cases e138
                        replace hx138_0 := (HB.out.cell (World.block_lt_of_cell? w _ hx138_0)).trans hx138_0
                        replace p138 := eq_true p138
                        replace q138 := eq_true q138
                        go_upto_region 10 with (fail)
                        go_cut [51] (fun v51 wc => ∃ (kq : Nat) (x51_14 : Bool), v51 = .bool x51_14 ∧ Aside0 (laws_FnDrawKeys.j3 kq l1 x5_3 x7_3 x41_3 (rd l0 x41_3) l0 (l0.length : Int) x41_3 x51_14 = some r) ∧ Aside0 (kq ≤ k3) ∧ Aside0 (Kd.R (Kd.int .i64) 2 wc w.heap.size (fun _ => True) u5 x5_3) ∧ Aside0 (Below w.heap.size w wc))
                        case first =>
                          have H := HC15.out
                          clear HC15
                          by_cases c16 : (rd l0 x41_3) < 1
                          · rw [if_pos c16] at H
                            have c16b0 : decide ((rd l0 x41_3) < 1) = true := decide_eq_true c16
                            clear c16
                            (first | rw [c16b0] | (simp only [i64_w, i32_w]; rw [c16b0]) | skip)
                            have H' := Aside0.mk H
                            clear H
                            go_wp2
                            go_meet
                            case rel => exact ⟨_, (true), (by first | rfl | (simp; done) | (simp [*]; done)), H', ⟨by have := HJ2.out; have := HJ5.out; have := HK3.out; first | omega | exact Nat.le_refl _⟩, ⟨by (with_reducible repeat (first | apply Kd.R_alloc | apply Kd.R_drewN | apply Kd.R_drew)); exact HO_5.out⟩, ⟨by repeat (first | (with_reducible first | exact HB.out | apply below_alloc | apply pw_below_drewN | apply below_drew1) | exact HB.out)⟩⟩
                          · rw [if_neg c16] at H
                            have c16b0 : decide ((rd l0 x41_3) < 1) = false := decide_eq_false c16
                            clear c16
                            (first | rw [c16b0] | (simp only [i64_w, i32_w]; rw [c16b0]) | skip)
                            have H' := Aside0.mk H
                            clear H
                            go_wp2
                            go_meet
                            case rel => exact ⟨_, (decide ((rd l0 x41_3) > 31)), (by first | rfl | (simp; done) | (simp [*]; done)), H', ⟨by have := HJ2.out; have := HJ5.out; have := HK3.out; first | omega | exact Nat.le_refl _⟩, ⟨by (with_reducible repeat (first | apply Kd.R_alloc | apply Kd.R_drewN | apply Kd.R_drew)); exact HO_5.out⟩, ⟨by repeat (first | (with_reducible first | exact HB.out | apply below_alloc | apply pw_below_drewN | apply below_drew1) | exact HB.out)⟩⟩
                        case rest => as_aux_lemma =>
                          clear HC15
                          try clear c1
                          try clear p1
                          try clear q1
                          try clear hx1
                          try clear p2
                          try clear c3
                          try clear c4
                          try clear c4b0
                          try clear c4b1
                          try clear c5
                          try clear c7
                          try clear c7b0
                          try clear c7b1
                          try clear c8
                          try clear c8b0
                          try clear c8b1
                          try clear c9
                          try clear c12
                          try clear c12b0
                          try clear c13
                          try clear c13b0
                          try clear p13
                          try clear q13
                          try clear hx13
                          try clear c14
                          try clear c14b0
                          try clear c16
                          try clear c16b0
                          try clear hx138_0
                          try clear p138
                          try clear p2
                          try clear q138
                          obtain ⟨kq, x51_14, rfl, HA, HJ14, HO_5, HB⟩ := hcut
                          cases kq with
                          | zero => exact absurd HA.out (by simp [laws_FnDrawKeys.j3])
                          | succ kj14 =>
                            have H := HA.out
                            clear HA
                            simp only [laws_FnDrawKeys.j3] at H
                            by_cases c17 : x51_14 = true
                            · subst c17
                              have H1 : ((laws_drawAwake.f).bind fun t139 => (some t139)) = some r := by rw [if_pos rfl] at H; exact H
                              clear H
                              have H := H1
                              clear H1
                              replace H := Option.bind_eq_some_iff.mp H
                              obtain ⟨t139, A180, H⟩ := H
                              replace H : (some t139) = some r := H
                              have A18 := Aside0.mk A180
                              clear A180
                              obtain rfl := Option.some.inj H
                              go_wp2_with (first | ((with_reducible refine gate_callee (f := 4) rfl ?_); refine goesL_ (some 52) rfl rfl Tryd.func4 (by kernel_rfl) rfl #[] rfl (by (try simp only [List.map_toArray, List.map_cons, List.map_nil]); first | done | rfl | (simp only [List.length_drop, List.length_take]; rfl)) ?_; (with_reducible refine (laws_drawAwake.calls  t139 _ ?side1 A18.out).mono ?_); (case side1 => exact XTab.below HT.out (by repeat (first | (with_reducible first | exact HB.out | apply below_alloc | apply pw_below_drewN | apply below_drew1) | exact HB.out))); rintro e w19 ⟨rfl, hb⟩; refine ⟨_, rfl, ?_⟩; have n0_ := Aside0.mk (Kd.R_below (by (with_reducible repeat (first | apply Kd.R_alloc | apply Kd.R_drewN | apply Kd.R_drew)); exact HO_5.out) hb); have n1_ := Aside0.mk (below_step (by repeat (first | (with_reducible first | exact HB.out | apply below_alloc | apply pw_below_drewN | apply below_drew1) | exact HB.out)) hb); clear HO_5; clear HB; have HO_5 := n0_; have HB := n1_; clear n0_ n1_; (try clear hb); (try clear hb2); (try clear hk); (try clear hi)))
                              go_ret
                              exact ⟨by first | rfl | (simp [errW_none, errW_some] <;> rfl) | (simp [*, errW_none, errW_some] <;> rfl), by repeat (first | (with_reducible first | exact HB.out | apply below_alloc | apply pw_below_drewN | apply below_drew1) | exact HB.out)⟩
                            · replace c17 := Bool.eq_false_iff.mpr c17
                              subst c17
                              have H1 : (if 0 ≤ x41_3 then (if x41_3 < (l1.length : Int) then (if rdOf false l1 x41_3 = true then (if 0 ≤ (mx 0 (wrap64 ((x5_3.length : Int) - (rd l0 x41_3)))) then (if (mx 0 (wrap64 ((x5_3.length : Int) - (rd l0 x41_3)))) ≤ (x5_3.length : Int) then ((impl_MakeNumber.f 27 (rd l0 x41_3)).bind fun t144 => (if x7_3.size + t144.size ≤ 9223372036854775807 then (laws_FnDrawKeys.l0 kj14 l1 (x5_3.take ((mx 0 (wrap64 ((x5_3.length : Int) - (rd l0 x41_3)))) : Int).toNat) (x7_3 ++ t144) l0 (l0.length : Int) (wrap64 (x41_3 + 1))) else (none))) else (none)) else (none)) else (if x5_3.length < 17592186044416 then ((impl_MakeNumber.f 26 (rd l0 x41_3)).bind fun t148 => (if x7_3.size + t148.size ≤ 9223372036854775807 then (laws_FnDrawKeys.l0 kj14 l1 (x5_3 ++ [(rd l0 x41_3)]) (x7_3 ++ t148) l0 (l0.length : Int) (wrap64 (x41_3 + 1))) else (none))) else (none))) else (none)) else (none)) = some r := by rw [if_neg (show ¬ (false = true) by decide)] at H; exact H
                              clear H
                              have H := H1
                              clear H1
                              by_cases c20 : 0 ≤ x41_3
                              · rw [if_pos c20] at H
                                have c20b0 : decide (0 ≤ x41_3) = true := decide_eq_true c20
                                clear c20
                                by_cases c21 : x41_3 < (l1.length : Int)
                                · rw [if_pos c21] at H
                                  have c21b0 : decide (x41_3 < (l1.length : Int)) = true := decide_eq_true c21
                                  clear c21
                                  obtain ⟨bq22, hbq22⟩ : ∃ b_ : Bool, b_ = (rdOf false l1 x41_3) := ⟨_, rfl⟩
                                  replace H : (if bq22 = true then (if 0 ≤ (mx 0 (wrap64 ((x5_3.length : Int) - (rd l0 x41_3)))) then (if (mx 0 (wrap64 ((x5_3.length : Int) - (rd l0 x41_3)))) ≤ (x5_3.length : Int) then ((impl_MakeNumber.f 27 (rd l0 x41_3)).bind fun t144 => (if x7_3.size + t144.size ≤ 9223372036854775807 then (laws_FnDrawKeys.l0 kj14 l1 (x5_3.take ((mx 0 (wrap64 ((x5_3.length : Int) - (rd l0 x41_3)))) : Int).toNat) (x7_3 ++ t144) l0 (l0.length : Int) (wrap64 (x41_3 + 1))) else (none))) else (none)) else (none)) else (if x5_3.length < 17592186044416 then ((impl_MakeNumber.f 26 (rd l0 x41_3)).bind fun t148 => (if x7_3.size + t148.size ≤ 9223372036854775807 then (laws_FnDrawKeys.l0 kj14 l1 (x5_3 ++ [(rd l0 x41_3)]) (x7_3 ++ t148) l0 (l0.length : Int) (wrap64 (x41_3 + 1))) else (none))) else (none))) = some r := by rw [← hbq22] at H; exact H
                                  have Nbq22 := Aside0.mk hbq22
                                  clear hbq22
                                  by_cases c23 : bq22 = true
                                  · subst c23
                                    have H1 : (if 0 ≤ (mx 0 (wrap64 ((x5_3.length : Int) - (rd l0 x41_3)))) then (if (mx 0 (wrap64 ((x5_3.length : Int) - (rd l0 x41_3)))) ≤ (x5_3.length : Int) then ((impl_MakeNumber.f 27 (rd l0 x41_3)).bind fun t144 => (if x7_3.size + t144.size ≤ 9223372036854775807 then (laws_FnDrawKeys.l0 kj14 l1 (x5_3.take ((mx 0 (wrap64 ((x5_3.length : Int) - (rd l0 x41_3)))) : Int).toNat) (x7_3 ++ t144) l0 (l0.length : Int) (wrap64 (x41_3 + 1))) else (none))) else (none)) else (none)) = some r := by rw [if_pos rfl] at H; exact H
                                    clear H
                                    have H := H1
                                    clear H1
                                    obtain ⟨ji24, hji24⟩ : ∃ j_ : Int, (mx 0 (wrap64 ((x5_3.length : Int) - (rd l0 x41_3)))) = j_ := ⟨_, rfl⟩
                                    replace H : (if 0 ≤ (ji24) then (if (ji24) ≤ (x5_3.length : Int) then ((impl_MakeNumber.f 27 (rd l0 x41_3)).bind fun t144 => (if x7_3.size + t144.size ≤ 9223372036854775807 then (laws_FnDrawKeys.l0 kj14 l1 (x5_3.take ((ji24) : Int).toNat) (x7_3 ++ t144) l0 (l0.length : Int) (wrap64 (x41_3 + 1))) else (none))) else (none)) else (none)) = some r := by first | (rw [hji24] at H; exact H) | (simp only [hji24] at H ⊢; exact H)
                                    have hji24_ : (if 0 < (wrap64 ((x5_3.length : Int) - (rd l0 x41_3))) then (wrap64 ((x5_3.length : Int) - (rd l0 x41_3))) else 0) = ji24 := hji24
                                    by_cases c25 : 0 ≤ (ji24)
                                    · rw [if_pos c25] at H
                                      have c25b0 := eq_true c25
                                      have c25b1 : decide (0 ≤ (ji24)) = true := decide_eq_true c25
                                      clear c25
                                      by_cases c26 : (ji24) ≤ (x5_3.length : Int)
                                      · rw [if_pos c26] at H
                                        have c26b0 := eq_true c26
                                        have c26b1 : decide ((ji24) ≤ (x5_3.length : Int)) = true := decide_eq_true c26
                                        clear c26
                                        obtain ⟨y141, hy141⟩ : ∃ y_ : List Int, y_ = (x5_3.take ((ji24) : Int).toNat) := ⟨_, rfl⟩
                                        replace H : ((impl_MakeNumber.f 27 (rd l0 x41_3)).bind fun t144 => (if x7_3.size + t144.size ≤ 9223372036854775807 then (laws_FnDrawKeys.l0 kj14 l1 y141 (x7_3 ++ t144) l0 (l0.length : Int) (wrap64 (x41_3 + 1))) else (none))) = some r := by first | (rw [hy141]; with_reducible exact H) | (have H2_ := (Option.bind_some _ _).symm.trans H; rw [hy141]; with_reducible exact H2_) | (have H2_ := (Option.bind_some _ _).symm.trans H; with_reducible exact H2_) | with_reducible exact H | (rw [hy141]; exact H) | exact H
                                        have Ny141 := Aside0.mk hy141
                                        clear hy141
                                        replace H := Option.bind_eq_some_iff.mp H
                                        obtain ⟨t144, A270, H⟩ := H
                                        replace H : (if x7_3.size + t144.size ≤ 9223372036854775807 then (laws_FnDrawKeys.l0 kj14 l1 y141 (x7_3 ++ t144) l0 (l0.length : Int) (wrap64 (x41_3 + 1))) else (none)) = some r := H
                                        have A27 := Aside0.mk A270
                                        clear A270
                                        by_cases c28 : x7_3.size + t144.size ≤ 9223372036854775807
                                        · rw [if_pos c28] at H
                                          have c28b0 := eq_true c28
                                          have c28b1 : decide (x7_3.size + t144.size ≤ 9223372036854775807) = true := decide_eq_true c28
                                          try have c28b2 : (9223372036854775807 < x7_3.size + t144.size) = False := eq_false (Nat.not_lt.2 c28)
                                          have H' := Aside0.mk H
                                          clear H
                                          have p140 : 0 ≤ (x41_3 : Int) := of_decide_eq_true (by first | (with_reducible assumption) | assumption)
                                          have q140 : x41_3 < (l1.length : Int) := of_decide_eq_true (by first | (with_reducible assumption) | assumption)
                                          obtain ⟨ad140, e140, hx140_0⟩ := Kd.at_bool HR1.out x41_3 p140 q140
                                          (try rw [← Nbq22.out] at hx140_0)
                                          cases e140
                                          replace hx140_0 := (HB.out.cell (World.block_lt_of_cell? w _ hx140_0)).trans hx140_0
                                          replace p140 := eq_true p140
                                          replace q140 := eq_true q140
                                          obtain ⟨Ao29, co29, eo29⟩ := Kd.R_slice HO_5.out
                                          subst eo29
                                          have q30 : ((ji24) : Int) ≤ ((x5_3.length : Int) : Int) := of_decide_eq_true (by first | (with_reducible assumption) | assumption)
                                          obtain ⟨i030, hi030, _, hsz30, _⟩ := info_parts info2
                                          have hcut30 := cut_to (P := Tryd.prog) 22 2 .i64 Tryd.underlying22 hi030 Ao29 x5_3.length co29 (ji24) (of_decide_eq_true (by first | (with_reducible assumption) | assumption)) q30 (Kd.R_reads' HO_5.out).2.1
                                          have hr30 := Kd.R_take (m := ((ji24) : Int).toNat) HO_5.out (by omega)
                                          have hy30 : y141.length = ((ji24) : Int).toNat := (by rw [Ny141.out, List.length_take]; omega)
                                          rw [← Ny141.out] at hr30
                                          rw [← hy30] at hr30 hcut30
                                          clear hy30 hi030 hsz30 HO_5
                                          have HO143 := Aside0.mk hr30
                                          clear hr30
                                          replace q30 := eq_true q30
                                          go_wp2_with (first | ((with_reducible refine gate_callee (f := 5) rfl ?_); refine goesL_ (some 66) rfl rfl Tryd.func5 (by kernel_rfl) rfl #[.int .i64 27, .int .i64 (rd l0 x41_3)] rfl (by (try simp only [List.map_toArray, List.map_cons, List.map_nil]); first | done | rfl | (simp only [List.length_drop, List.length_take]; rfl)) ?_; (with_reducible refine (impl_MakeNumber.calls 27 (rd l0 x41_3) t144 _ ?side1 A27.out).mono ?_); (case side1 => exact XTab.below HT.out (by repeat (first | (with_reducible first | exact HB.out | apply below_alloc | apply pw_below_drewN | apply below_drew1) | exact HB.out))); rintro e w31 ⟨rfl, hb⟩; refine ⟨_, rfl, ?_⟩; have n0_ := Aside0.mk (Kd.R_below (by (with_reducible repeat (first | apply Kd.R_alloc | apply Kd.R_drewN | apply Kd.R_drew)); exact HO143.out) hb); have n1_ := Aside0.mk (below_step (by repeat (first | (with_reducible first | exact HB.out | apply below_alloc | apply pw_below_drewN | apply below_drew1) | exact HB.out)) hb); clear HO143; clear HB; have HO143 := n0_; have HB := n1_; clear n0_ n1_; (try clear hb); (try clear hb2); (try clear hk); (try clear hi)))
                                          go_roundg kj14
                                          case measure => have := HJ2.out; have := HJ5.out; have := HK3.out; have := HJ14.out; omega
                                          case rel => (try rw [← Nbq22.out]); exact ⟨(y141), (x7_3 ++ t144), (wrap64 (x41_3 + 1)), (by first | rfl | (simp; done) | (simp [*]; done)), (by first | rfl | (simp; done) | (simp [*]; done)), H', ⟨by have := HJ2.out; have := HJ5.out; have := HK3.out; have := HJ14.out; omega⟩, ⟨by (with_reducible repeat (first | apply Kd.R_alloc | apply Kd.R_drewN | apply Kd.R_drew)); exact HO143.out⟩, ⟨by repeat (first | (with_reducible first | exact HB.out | apply below_alloc | apply pw_below_drewN | apply below_drew1) | exact HB.out)⟩⟩
                                        · rw [if_neg c28] at H
                                          exact absurd H (by simp)
                                      · rw [if_neg c26] at H
                                        exact absurd H (by simp)
                                    · rw [if_neg c25] at H
                                      exact absurd H (by simp)
                                  · replace c23 := Bool.eq_false_iff.mpr c23
                                    subst c23
                                    have H1 : (if x5_3.length < 17592186044416 then ((impl_MakeNumber.f 26 (rd l0 x41_3)).bind fun t148 => (if x7_3.size + t148.size ≤ 9223372036854775807 then (laws_FnDrawKeys.l0 kj14 l1 (x5_3 ++ [(rd l0 x41_3)]) (x7_3 ++ t148) l0 (l0.length : Int) (wrap64 (x41_3 + 1))) else (none))) else (none)) = some r := by rw [if_neg (show ¬ (false = true) by decide)] at H; exact H
                                    clear H
                                    have H := H1
                                    clear H1
                                    by_cases c32 : x5_3.length < 17592186044416
                                    · rw [if_pos c32] at H
                                      have LMc32 := Aside0.mk c32
                                      clear c32
                                      obtain ⟨y145, hy145⟩ : ∃ y_ : List Int, y_ = (x5_3 ++ [(rd l0 x41_3)]) := ⟨_, rfl⟩
                                      replace H : ((impl_MakeNumber.f 26 (rd l0 x41_3)).bind fun t148 => (if x7_3.size + t148.size ≤ 9223372036854775807 then (laws_FnDrawKeys.l0 kj14 l1 y145 (x7_3 ++ t148) l0 (l0.length : Int) (wrap64 (x41_3 + 1))) else (none))) = some r := by first | (rw [hy145]; with_reducible exact H) | (have H2_ := (Option.bind_some _ _).symm.trans H; rw [hy145]; with_reducible exact H2_) | (have H2_ := (Option.bind_some _ _).symm.trans H; with_reducible exact H2_) | with_reducible exact H | (rw [hy145]; exact H) | exact H
                                      have Ny145 := Aside0.mk hy145
                                      clear hy145
                                      replace H := Option.bind_eq_some_iff.mp H
                                      obtain ⟨t148, A330, H⟩ := H
                                      replace H : (if x7_3.size + t148.size ≤ 9223372036854775807 then (laws_FnDrawKeys.l0 kj14 l1 y145 (x7_3 ++ t148) l0 (l0.length : Int) (wrap64 (x41_3 + 1))) else (none)) = some r := H
                                      have A33 := Aside0.mk A330
                                      clear A330
                                      by_cases c34 : x7_3.size + t148.size ≤ 9223372036854775807
                                      · rw [if_pos c34] at H
                                        have c34b0 := eq_true c34
                                        have c34b1 : decide (x7_3.size + t148.size ≤ 9223372036854775807) = true := decide_eq_true c34
                                        try have c34b2 : (9223372036854775807 < x7_3.size + t148.size) = False := eq_false (Nat.not_lt.2 c34)
                                        have H' := Aside0.mk H
                                        clear H
                                        have p140 : 0 ≤ (x41_3 : Int) := of_decide_eq_true (by first | (with_reducible assumption) | assumption)
                                        have q140 : x41_3 < (l1.length : Int) := of_decide_eq_true (by first | (with_reducible assumption) | assumption)
                                        obtain ⟨ad140, e140, hx140_0⟩ := Kd.at_bool HR1.out x41_3 p140 q140
                                        (try rw [← Nbq22.out] at hx140_0)
                                        cases e140
                                        replace hx140_0 := (HB.out.cell (World.block_lt_of_cell? w _ hx140_0)).trans hx140_0
                                        replace p140 := eq_true p140
                                        replace q140 := eq_true q140
                                        go_wp2_with (first | ((with_reducible refine gate_builtin (b := .append) (xs := #[.tmp 68, .tmp 70]) rfl ?_); (try (refine gate_guard (by rfl) ?_; dsimp only)); at_builtin; refine Kd.R_append (Kd.int .i64) (w0 := w) w.heap.size rfl (.tmp 68) (.tmp 70) 22 2 (.int .i64 0) 8 rfl Tryd.underlying22 info2 rfl (by decide) (by omega) u5 x5_3 (rd l0 x41_3) [.int .i64 (rd l0 x41_3)] (fun _ => True) (fun _ => False) rfl rfl ?aP (fun _ hk => hk.elim) ?aF ?aO ?aB ?aS ?aL ?_; (case aP => exact rfl); (case aB => exact (by repeat (first | (with_reducible first | exact HB.out | apply below_alloc | apply pw_below_drewN | apply below_drew1) | exact HB.out))); (case aF => exact (fun _ _ => trivial)); (case aO => exact (by (with_reducible repeat (first | apply Kd.R_alloc | apply Kd.R_drewN | apply Kd.R_drew)); exact HO_5.out)); (case aS => exact (below_size (by repeat (first | (with_reducible first | exact HB.out | apply below_alloc | apply pw_below_drewN | apply below_drew1) | exact HB.out)))); (case aL => have := LMc32.out; omega); intro v146 w35 ho hb hg hat; rw [← Ny145.out] at ho; have n0_ := Aside0.mk (hb); have n1_ := Aside0.mk (ho); clear HB; clear HO_5; have HB := n0_; have HO147 := n1_; clear n0_ n1_; clear ho hb hg hat) | ((with_reducible refine gate_callee (f := 5) rfl ?_); refine goesL_ (some 74) rfl rfl Tryd.func5 (by kernel_rfl) rfl #[.int .i64 26, .int .i64 (rd l0 x41_3)] rfl (by (try simp only [List.map_toArray, List.map_cons, List.map_nil]); first | done | rfl | (simp only [List.length_drop, List.length_take]; rfl)) ?_; (with_reducible refine (impl_MakeNumber.calls 26 (rd l0 x41_3) t148 _ ?side1 A33.out).mono ?_); (case side1 => exact XTab.below HT.out (by repeat (first | (with_reducible first | exact HB.out | apply below_alloc | apply pw_below_drewN | apply below_drew1) | exact HB.out))); rintro e w36 ⟨rfl, hb⟩; refine ⟨_, rfl, ?_⟩; have n0_ := Aside0.mk (Kd.R_below (by (with_reducible repeat (first | apply Kd.R_alloc | apply Kd.R_drewN | apply Kd.R_drew)); exact HO147.out) hb); have n1_ := Aside0.mk (below_step (by repeat (first | (with_reducible first | exact HB.out | apply below_alloc | apply pw_below_drewN | apply below_drew1) | exact HB.out)) hb); clear HO147; clear HB; have HO147 := n0_; have HB := n1_; clear n0_ n1_; (try clear hb); (try clear hb2); (try clear hk); (try clear hi)))
                                        go_roundg kj14
                                        case measure => have := HJ2.out; have := HJ5.out; have := HK3.out; have := HJ14.out; omega
                                        case rel => (try rw [← Nbq22.out]); exact ⟨(y145), (x7_3 ++ t148), (wrap64 (x41_3 + 1)), (by first | rfl | (simp; done) | (simp [*]; done)), (by first | rfl | (simp; done) | (simp [*]; done)), H', ⟨by have := HJ2.out; have := HJ5.out; have := HK3.out; have := HJ14.out; omega⟩, ⟨by (with_reducible repeat (first | apply Kd.R_alloc | apply Kd.R_drewN | apply Kd.R_drew)); exact HO147.out⟩, ⟨by repeat (first | (with_reducible first | exact HB.out | apply below_alloc | apply pw_below_drewN | apply below_drew1) | exact HB.out)⟩⟩
                                      · rw [if_neg c34] at H
                                        exact absurd H (by simp)
                                    · rw [if_neg c32] at H
                                      exact absurd H (by simp)
                                · rw [if_neg c21] at H
                                  exact absurd H (by simp)
                              · rw [if_neg c20] at H
                                exact absurd H (by simp)
                      · rw [if_neg c14] at H
                        exact absurd H (by simp)
                    · rw [if_neg c13] at H
                      exact absurd H (by simp)
                  · rw [if_neg c12] at H
                    have c12b0 : decide (x41_3 < (l0.length : Int)) = false := decide_eq_false c12
                    clear c12
                    replace H := Option.bind_eq_some_iff.mp H
                    obtain ⟨t149, A370, H⟩ := H
                    replace H : ((impl_Feed.f 32 4096 t149).bind fun t152 => (laws_FnDrawKeys.l1 k3 x5_3 ([] : List Int) t152 (t152.length : Int) 0)) = some r := H
                    have A37 := Aside0.mk A370
                    clear A370
                    replace H := Option.bind_eq_some_iff.mp H
                    obtain ⟨t152, A380, H⟩ := H
                    replace H : (laws_FnDrawKeys.l1 k3 x5_3 ([] : List Int) t152 (t152.length : Int) 0) = some r := H
                    have A38 := Aside0.mk A380
                    clear A380
                    have H' := Aside0.mk H
                    clear H
                    go_wp2_with (first | ((with_reducible refine gate_dst (N := 78) rfl ?_); (try (refine gate_guard (by rfl) ?_; dsimp only)); refine conv_ev 9 28 5 rfl rfl Tryd.underlying9 Tryd.underlying28 Tryd.underlying5 x7_3 rfl A37.out ?_; rintro e w39 ⟨v150, rfl, ho0, hb⟩; refine ⟨_, rfl, ?_⟩; have n0_ := Aside0.mk (Kd.R_below (by (with_reducible repeat (first | apply Kd.R_alloc | apply Kd.R_drewN | apply Kd.R_drew)); exact HO_5.out) hb); have n1_ := Aside0.mk (Kd.V_lower (Kd.V_mono (ok' := fun k_ => some k_ ≠ (u5 : Value).ownBlock) ho0 (fun k_ hk_ => (Kd.fresh' (Kd.R_lt (by (with_reducible repeat (first | apply Kd.R_alloc | apply Kd.R_drewN | apply Kd.R_drew)); exact HO_5.out)) k_ hk_))) (below_size (by repeat (first | (with_reducible first | exact HB.out | apply below_alloc | apply pw_below_drewN | apply below_drew1) | exact HB.out)))); have n2_ := Aside0.mk (below_step (by repeat (first | (with_reducible first | exact HB.out | apply below_alloc | apply pw_below_drewN | apply below_drew1) | exact HB.out)) hb); clear HO_5; clear HB; have HO_5 := n0_; have HO151 := n1_; have HB := n2_; clear n0_ n1_ n2_; (try clear hb); (try clear hb2); (try clear hk); (try clear hi); (try clear ho0); obtain ⟨Ao40, co40, eo40⟩ := Kd.V_slice HO151.out; subst eo40) | ((with_reducible refine gate_callee (f := 6) rfl ?_); refine goesL_ (some 79) rfl rfl Tryd.func6 (by kernel_rfl) rfl #[.int .i64 32, .int .i64 4096, .slice Ao40 t149.length co40] rfl (by (try simp only [List.map_toArray, List.map_cons, List.map_nil]); first | done | rfl | (simp only [List.length_drop, List.length_take]; rfl)) ?_; (with_reducible refine (impl_Feed.calls 32 4096 _ _ t149 t152 _ ?side1 ?side2 A38.out).mono ?_); (case side1 => repeat (first | exact (Kd.V_reads' HO151.out).2.2 | (with_reducible refine Kd.C_alloc ?_ _) | (with_reducible refine Kd.C_drewN ?_ _) | (with_reducible refine Kd.C_drew ?_))); (case side2 => exact (Kd.V_reads' HO151.out).2.1); rintro e w41 ⟨v153, rfl, ho0, hb⟩; refine ⟨_, rfl, ?_⟩; have n0_ := Aside0.mk (Kd.R_below (by (with_reducible repeat (first | apply Kd.R_alloc | apply Kd.R_drewN | apply Kd.R_drew)); exact HO_5.out) hb); have n1_ := Aside0.mk (Kd.V_elder' (by (with_reducible repeat (first | apply Kd.V_alloc | apply Kd.V_drewN | apply Kd.V_drew)); exact HO151.out) (by first | exact Kd.N_base ho0 | exact Kd.S_base ho0) hb); have n2_ := Aside0.mk (Kd.N_lower (Kd.N_mono (ok' := fun k_ => some k_ ≠ (u5 : Value).ownBlock) (Kd.S_N (Kd.S_bound ho0)) (fun k_ hk_ => (Kd.fresh' (Kd.R_lt (by (with_reducible repeat (first | apply Kd.R_alloc | apply Kd.R_drewN | apply Kd.R_drew)); exact HO_5.out)) k_ hk_.2.1))) (below_size (by repeat (first | (with_reducible first | exact HB.out | apply below_alloc | apply pw_below_drewN | apply below_drew1) | exact HB.out)))); have n3_ := Aside0.mk (below_step (by repeat (first | (with_reducible first | exact HB.out | apply below_alloc | apply pw_below_drewN | apply below_drew1) | exact HB.out)) hb); clear HO_5; clear HO151; clear HB; have HO_5 := n0_; have HO151 := n1_; have HO154 := n2_; have HB := n3_; clear n0_ n1_ n2_ n3_; (try clear hb); (try clear hb2); (try clear hk); (try clear hi); (try clear ho0); obtain ⟨Ao42, co42, eo42⟩ := Kd.N_slice HO154.out; subst eo42))
                    go_loopg [6, 81] k3 (fun kq v6 v81 w' => ∃ (x6_4 : List Int) (x81_4 : Int), v81 = .int .i64 x81_4 ∧ Aside0 (laws_FnDrawKeys.l1 kq x5_3 x6_4 t152 (t152.length : Int) x81_4 = some r) ∧ Aside0 (kq ≤ k3) ∧ Aside0 (Kd.R (Kd.int .i64) 2 w' w.heap.size (fun k_ => some k_ ≠ (v6 : Value).ownBlock) u5 x5_3) ∧ Aside0 (Kd.R (Kd.int .i64) 2 w' w.heap.size (fun k_ => some k_ ≠ (u5 : Value).ownBlock) v6 x6_4) ∧ Aside0 (Kd.N k30 30 w' w.heap.size (fun k_ => some k_ ≠ (u5 : Value).ownBlock ∧ some k_ ≠ (v6 : Value).ownBlock) (.slice Ao42 t152.length co42) t152) ∧ Aside0 (Below w.heap.size w w'))
                    case atStart => exact ⟨(([] : List Int)), (0), (by first | rfl | (simp; done) | (simp [*]; done)), H', ⟨Nat.le_refl _⟩, ⟨by (with_reducible repeat (first | apply Kd.R_alloc | apply Kd.R_drewN | apply Kd.R_drew)); exact Kd.R_mono HO_5.out (fun _ hk => (by simp [Value.ownBlock]))⟩, ⟨by first | exact Kd.R_nil _ _ _ _ _ | exact Kd.N_nil _ _ _ _ _ | exact Kd.V_nil _ _ _ _ _ | exact Kd.Q_nil _ _ _ _ _ | exact Kd.S_nil _ _ _ _ _⟩, ⟨by (with_reducible repeat (first | apply Kd.N_alloc | apply Kd.N_drewN | apply Kd.N_drew)); exact Kd.N_mono HO154.out (fun _ hk => ⟨hk, (by simp [Value.ownBlock])⟩)⟩, ⟨by repeat (first | (with_reducible first | exact HB.out | apply below_alloc | apply pw_below_drewN | apply below_drew1) | exact HB.out)⟩⟩
                    case round =>
                      clear H'
                      try clear c1
                      try clear p1
                      try clear q1
                      try clear hx1
                      try clear c2
                      try clear p2
                      try clear q2
                      try clear c3
                      try clear q3
                      try clear c4
                      try clear c4b0
                      try clear c4b1
                      try clear c5
                      try clear c6
                      try clear p6
                      try clear c7
                      try clear c7b0
                      try clear c7b1
                      try clear c8
                      try clear c8b0
                      try clear c8b1
                      try clear c9
                      try clear c12
                      try clear c12b0
                      try clear c13
                      try clear c13b0
                      try clear p13
                      try clear q13
                      try clear hx13
                      try clear c14
                      try clear c14b0
                      try clear p14
                      try clear q14
                      try clear hx14
                      try clear c16
                      try clear c16b0
                      try clear c17
                      try clear c20
                      try clear c20b0
                      try clear c21
                      try clear c21b0
                      try clear q22
                      try clear c23
                      try clear c25
                      try clear c25b0
                      try clear c25b1
                      try clear c26
                      try clear c26b0
                      try clear c26b1
                      try clear c28
                      try clear c28b0
                      try clear c28b1
                      try clear c28b2
                      try clear q30
                      try clear c32
                      try clear c34
                      try clear c34b0
                      try clear c34b1
                      try clear c34b2
                      try clear hx138_0
                      try clear hx140_0
                      try clear p1
                      try clear p13
                      try clear p138
                      try clear p140
                      try clear p2
                      try clear q1
                      try clear q13
                      try clear q138
                      try clear q140
                      try clear q30
                      obtain ⟨x6_4, x81_4, rfl, HA, HK4, HO_5, HO_6, HO_79, HB⟩ := hrel
                      cases gk with
                      | zero => exact absurd HA.out (by simp [laws_FnDrawKeys.l1])
                      | succ k4 =>
                        have H := HA.out
                        clear HA
                        simp only [laws_FnDrawKeys.l1] at H
                        by_cases c43 : x81_4 < (t152.length : Int)
                        · rw [if_pos c43] at H
                          have c43b0 : decide (x81_4 < (t152.length : Int)) = true := decide_eq_true c43
                          clear c43
                          by_cases c44 : 0 ≤ x81_4
                          · rw [if_pos c44] at H
                            have c44b0 : decide (0 ≤ x81_4) = true := decide_eq_true c44
                            clear c44
                            by_cases c45 : x81_4 < (t152.length : Int)
                            · rw [if_pos c45] at H
                              have c45b0 : decide (x81_4 < (t152.length : Int)) = true := decide_eq_true c45
                              clear c45
                              obtain ⟨y159, hy159⟩ : ∃ y_ : List (S33), y_ = (([(⟨(rd_T30 t152 x81_4).f0, (rd_T30 t152 x81_4).f1, (rd_T30 t152 x81_4).f2, (rd_T30 t152 x81_4).f3, (rd_T30 t152 x81_4).f4, (rd_T30 t152 x81_4).f5⟩ : S33)] : List (S33))) := ⟨_, rfl⟩
                              replace H : ((spec_DrawNumbers.f k4 y159).bind fun bt162 => (if bt162.2.2 = true then (laws_FnDrawKeys.j5 k4 x5_3 x6_4 bt162.1 bt162.2.1 t152 (t152.length : Int) x81_4 ((bt162.2.1.length : Int) != 1)) else (laws_FnDrawKeys.j5 k4 x5_3 x6_4 bt162.1 bt162.2.1 t152 (t152.length : Int) x81_4 true))) = some r := by first | (rw [hy159]; with_reducible exact H) | (have H2_ := (Option.bind_some _ _).symm.trans H; rw [hy159]; with_reducible exact H2_) | (have H2_ := (Option.bind_some _ _).symm.trans H; with_reducible exact H2_) | with_reducible exact H | (rw [hy159]; exact H) | exact H
                              have Ny159 := Aside0.mk hy159
                              clear hy159
                              replace H := Option.bind_eq_some_iff.mp H
                              obtain ⟨⟨t162, t163, t164⟩, A460, H⟩ := H
                              replace H : (if t164 = true then (laws_FnDrawKeys.j5 k4 x5_3 x6_4 t162 t163 t152 (t152.length : Int) x81_4 ((t163.length : Int) != 1)) else (laws_FnDrawKeys.j5 k4 x5_3 x6_4 t162 t163 t152 (t152.length : Int) x81_4 true)) = some r := H
                              have A46 := Aside0.mk A460
                              clear A460
                              have HC47 := Aside0.mk H
                              clear H
                              have p157 : 0 ≤ (x81_4 : Int) := of_decide_eq_true (by first | (with_reducible assumption) | assumption)
                              have q157 : x81_4 < (t152.length : Int) := of_decide_eq_true (by first | (with_reducible assumption) | assumption)
                              obtain ⟨ad157, A157_4, c157_4, A157_5, c157_5, e157, hx157_0, hx157_1, hx157_2, hx157_3, hx157_4, hx157_5, hl157_4, hi157_4, hl157_5, hi157_5⟩ := at_T30 (Kd.N_reads' HO_79.out).2.2 x81_4 p157 q157
                              cases e157
                              obtain ⟨ce157, hce157, hMe157, hcc157⟩ := Kd.N_get HO_79.out z30 x81_4 p157 (by first | exact q157 | exact of_decide_eq_true (by first | (with_reducible assumption) | assumption) | (have e_ := (Kd.N_reads' HO_79.out).1; omega))
                              obtain ⟨ua157_4, uc157_4, ua157_5, uc157_5, rfl, ul157_4, ge157_4, ul157_5, ge157_5⟩ := k30_openF hMe157
                              have hv157_4 := hcc157 4 _ rfl
                              rw [add_field _ _ 4 (by omega)] at hv157_4
                              replace hv157_4 := Option.some.inj (hv157_4.symm.trans hx157_4)
                              injection hv157_4 with hva_ hvn_ hvc_
                              rw [hva_] at ge157_4
                              rw [hvc_] at ul157_4
                              have HL157_4 := Aside0.mk (show Kd.V (Kd.int .i64) 2 _ w.heap.size _ _ ((rd_T30 t152 x81_4).f4) from Kd.V_mk ul157_4 ge157_4)
                              clear hva_ hvn_ hvc_ ge157_4 ul157_4
                              have hv157_5 := hcc157 5 _ rfl
                              rw [add_field _ _ 5 (by omega)] at hv157_5
                              replace hv157_5 := Option.some.inj (hv157_5.symm.trans hx157_5)
                              injection hv157_5 with hva_ hvn_ hvc_
                              rw [hva_] at ge157_5
                              rw [hvc_] at ul157_5
                              have HL157_5 := Aside0.mk (show Kd.V (Kd.int .u8) 5 _ w.heap.size _ _ ((rd_T30 t152 x81_4).f5) from Kd.V_mk ul157_5 ge157_5)
                              clear hva_ hvn_ hvc_ ge157_5 ul157_5
                              clear hcc157 hce157
                              have HR157_4 := Aside0.mk hi157_4
                              have HC157_4 := Aside0.mk hl157_4
                              clear hi157_4 hl157_4
                              have HR157_5 := Aside0.mk hi157_5
                              have HC157_5 := Aside0.mk hl157_5
                              clear hi157_5 hl157_5
                              replace p157 := eq_true p157
                              replace q157 := eq_true q157
                              go_upto_region 23 with (first | ((with_reducible refine gate_dst (N := 11) rfl ?_); (try (refine gate_guard (by rfl) ?_; dsimp only)); refine box_event ?hg (N := 11) ?hd (cs := #[.int .i64 0, .int .i64 0, .int .u8 0, .int .i64 0, .slice none 0 0, .slice none 0 0]) (t := 30) ?hr ?_; (case hd => rfl); (case hg => rfl); (case hr => first | (go_simp; done) | (go_simp; rfl)); intro gb158 hg w48 hbox hb; have n0_ := Aside0.mk (Kd.R_below (by (with_reducible repeat (first | apply Kd.R_alloc | apply Kd.R_drewN | apply Kd.R_drew)); exact HO_5.out) hb); have n1_ := Aside0.mk (Kd.R_below (by (with_reducible repeat (first | apply Kd.R_alloc | apply Kd.R_drewN | apply Kd.R_drew)); exact HO_6.out) hb); have n2_ := Aside0.mk (Kd.N_below (Kd.N_elderB (by (with_reducible repeat (first | apply Kd.N_alloc | apply Kd.N_drewN | apply Kd.N_drew)); exact HO_79.out) gb158 (Nat.le_of_eq hg.symm)) hb); have n3_ := Aside0.mk (Kd.V_below (Kd.V_elderB (by (with_reducible repeat (first | apply Kd.V_alloc | apply Kd.V_drewN | apply Kd.V_drew)); exact HL157_4.out) gb158 (Nat.le_of_eq hg.symm)) hb); have n4_ := Aside0.mk (Kd.V_below (Kd.V_elderB (by (with_reducible repeat (first | apply Kd.V_alloc | apply Kd.V_drewN | apply Kd.V_drew)); exact HL157_5.out) gb158 (Nat.le_of_eq hg.symm)) hb); (first | have n5_ := Aside0.mk (Kd.C_below (by repeat (first | (with_reducible exact HR157_4.out) | (with_reducible refine Kd.C_alloc ?_ _) | (with_reducible refine Kd.C_drewN ?_ _) | (with_reducible refine Kd.C_drew ?_) | exact HR157_4.out)) hb) | have n5_ := True.intro); (first | have n6_ := Aside0.mk (Kd.C_below (by repeat (first | (with_reducible exact HR157_5.out) | (with_reducible refine Kd.C_alloc ?_ _) | (with_reducible refine Kd.C_drewN ?_ _) | (with_reducible refine Kd.C_drew ?_) | exact HR157_5.out)) hb) | have n6_ := True.intro); have n7_ := Aside0.mk (below_step (by repeat (first | (with_reducible first | exact HB.out | apply below_alloc | apply pw_below_drewN | apply below_drew1) | exact HB.out)) hb); have n8_ := Aside0.mk (hbox); have n9_ := Aside0.mk ((by rw [hg]; exact (below_size (by repeat (first | (with_reducible first | exact HB.out | apply below_alloc | apply pw_below_drewN | apply below_drew1) | exact HB.out))) : w.heap.size ≤ gb158)); have n10_ := Aside0.mk ((by rw [hg]; exact (below_size (by repeat (first | (with_reducible first | exact HB.out | apply below_alloc | apply pw_below_drewN | apply below_drew1) | exact HB.out))) : w.heap.size ≤ gb158)); clear HO_5; clear HO_6; clear HO_79; clear HL157_4; clear HL157_5; clear HR157_4; clear HR157_5; clear HB; have HO_5 := n0_; have HO_6 := n1_; have HO_79 := n2_; have HL157_4 := n3_; have HL157_5 := n4_; have HR157_4 := n5_; have HR157_5 := n6_; have HB := n7_; have BK158 := n8_; have GW158 := n9_; have GE158 := n10_; clear n0_ n1_ n2_ n3_ n4_ n5_ n6_ n7_ n8_ n9_ n10_; clear hb hbox hg; have hcz49_0 : w48.cell? ⟨gb158, 0, none⟩ = some (.int .i64 0) := (blk_cell BK158.out 0).trans rfl; have hcz49_1 : w48.cell? ⟨gb158, 1, none⟩ = some (.int .i64 0) := (blk_cell BK158.out 1).trans rfl; have hcz49_2 : w48.cell? ⟨gb158, 2, none⟩ = some (.int .u8 0) := (blk_cell BK158.out 2).trans rfl; have hcz49_3 : w48.cell? ⟨gb158, 3, none⟩ = some (.int .i64 0) := (blk_cell BK158.out 3).trans rfl; have hcz49_4 : w48.cell? ⟨gb158, 4, none⟩ = some (.slice none 0 0) := (blk_cell BK158.out 4).trans rfl; have hcz49_5 : w48.cell? ⟨gb158, 5, none⟩ = some (.slice none 0 0) := (blk_cell BK158.out 5).trans rfl; have hfz49_0 := blk_frozen BK158.out 0; have hfz49_1 := blk_frozen BK158.out 1; have hfz49_2 := blk_frozen BK158.out 2; have hfz49_3 := blk_frozen BK158.out 3; have hfz49_4 := blk_frozen BK158.out 4; have hfz49_5 := blk_frozen BK158.out 5) | ((with_reducible refine gate_store (t := 30) (p := 11) rfl ?_); refine store_event (t := 30) (p := 11) (v := ?vo_w50) (w1 := ((((((w48.setCell ⟨gb158, 0, none⟩ (.int .i64 ((rd_T30 t152 x81_4).f0))).setCell ⟨gb158, 1, none⟩ (.int .i64 ((rd_T30 t152 x81_4).f1))).setCell ⟨gb158, 2, none⟩ (.int .u8 ((rd_T30 t152 x81_4).f2))).setCell ⟨gb158, 3, none⟩ (.int .i64 ((rd_T30 t152 x81_4).f3))).setCell ⟨gb158, 4, none⟩ (.slice A157_4 ((rd_T30 t152 x81_4).f4).length c157_4)).setCell ⟨gb158, 5, none⟩ (.slice A157_5 ((rd_T30 t152 x81_4).f5).length c157_5))) ?hg ?ho ?hn ?hr ?_; (case ho => rfl); (case hg => rfl); (case hn => rfl); (case hr => first | (go_simp; done) | (go_simp; rfl)); intro w50 hw; have n0_ : Aside0 (Kd.R (Kd.int .i64) 2 w50 w.heap.size (fun k_ => some k_ ≠ (u6 : Value).ownBlock) u5 x5_3) := ⟨(by rw [hw]; exact (by (with_reducible repeat (first | apply Kd.R_alloc | apply Kd.R_drewN | apply Kd.R_drew)); exact Kd.R_mono (Kd.R_far (p := ⟨gb158, 5, none⟩) (Kd.R_far (p := ⟨gb158, 4, none⟩) (Kd.R_far (p := ⟨gb158, 3, none⟩) (Kd.R_far (p := ⟨gb158, 2, none⟩) (Kd.R_far (p := ⟨gb158, 1, none⟩) (Kd.R_far (p := ⟨gb158, 0, none⟩) (Kd.R_types HO_5.out BK158.out (by decide)) (fun _ hk => hk.2) (.int .i64 ((rd_T30 t152 x81_4).f0))) (fun _ hk => hk.2) (.int .i64 ((rd_T30 t152 x81_4).f1))) (fun _ hk => hk.2) (.int .u8 ((rd_T30 t152 x81_4).f2))) (fun _ hk => hk.2) (.int .i64 ((rd_T30 t152 x81_4).f3))) (fun _ hk => hk.2) (.slice A157_4 ((rd_T30 t152 x81_4).f4).length c157_4)) (fun _ hk => hk.2) (.slice A157_5 ((rd_T30 t152 x81_4).f5).length c157_5)) (fun _ hk => hk.1)))⟩; have n1_ : Aside0 (Kd.R (Kd.int .i64) 2 w50 w.heap.size (fun k_ => some k_ ≠ (u5 : Value).ownBlock) u6 x6_4) := ⟨(by rw [hw]; exact (by (with_reducible repeat (first | apply Kd.R_alloc | apply Kd.R_drewN | apply Kd.R_drew)); exact Kd.R_mono (Kd.R_far (p := ⟨gb158, 5, none⟩) (Kd.R_far (p := ⟨gb158, 4, none⟩) (Kd.R_far (p := ⟨gb158, 3, none⟩) (Kd.R_far (p := ⟨gb158, 2, none⟩) (Kd.R_far (p := ⟨gb158, 1, none⟩) (Kd.R_far (p := ⟨gb158, 0, none⟩) (Kd.R_types HO_6.out BK158.out (by decide)) (fun _ hk => hk.2) (.int .i64 ((rd_T30 t152 x81_4).f0))) (fun _ hk => hk.2) (.int .i64 ((rd_T30 t152 x81_4).f1))) (fun _ hk => hk.2) (.int .u8 ((rd_T30 t152 x81_4).f2))) (fun _ hk => hk.2) (.int .i64 ((rd_T30 t152 x81_4).f3))) (fun _ hk => hk.2) (.slice A157_4 ((rd_T30 t152 x81_4).f4).length c157_4)) (fun _ hk => hk.2) (.slice A157_5 ((rd_T30 t152 x81_4).f5).length c157_5)) (fun _ hk => hk.1)))⟩; have n2_ : Aside0 (Kd.N k30 30 w50 w.heap.size (fun k_ => some k_ ≠ (u5 : Value).ownBlock ∧ some k_ ≠ (u6 : Value).ownBlock ∧ k_ ≠ gb158) (.slice (some ad157) t152.length co42) t152) := ⟨(by rw [hw]; exact (by (with_reducible repeat (first | apply Kd.N_alloc | apply Kd.N_drewN | apply Kd.N_drew)); exact Kd.N_mono (Kd.N_far (p := ⟨gb158, 5, none⟩) (Kd.N_far (p := ⟨gb158, 4, none⟩) (Kd.N_far (p := ⟨gb158, 3, none⟩) (Kd.N_far (p := ⟨gb158, 2, none⟩) (Kd.N_far (p := ⟨gb158, 1, none⟩) (Kd.N_far (p := ⟨gb158, 0, none⟩) (Kd.N_mono HO_79.out (fun k_ hk => (⟨hk, hk.2⟩ : _ ∧ k_ ≠ gb158))) (fun _ hk => hk.2) (.int .i64 ((rd_T30 t152 x81_4).f0))) (fun _ hk => hk.2) (.int .i64 ((rd_T30 t152 x81_4).f1))) (fun _ hk => hk.2) (.int .u8 ((rd_T30 t152 x81_4).f2))) (fun _ hk => hk.2) (.int .i64 ((rd_T30 t152 x81_4).f3))) (fun _ hk => hk.2) (.slice A157_4 ((rd_T30 t152 x81_4).f4).length c157_4)) (fun _ hk => hk.2) (.slice A157_5 ((rd_T30 t152 x81_4).f5).length c157_5)) (fun _ hk => ⟨hk.1.1.1, ⟨hk.1.1.2, hk.1.2⟩⟩)))⟩; have n3_ : Aside0 (Kd.V (Kd.int .i64) 2 w50 w.heap.size (fun k_ => some k_ ≠ (u5 : Value).ownBlock ∧ some k_ ≠ (u6 : Value).ownBlock ∧ some k_ ≠ (.slice (some ad157) t152.length co42 : Value).ownBlock ∧ k_ ≠ gb158) (.slice A157_4 ((rd_T30 t152 x81_4).f4).length c157_4) ((rd_T30 t152 x81_4).f4)) := ⟨(by rw [hw]; exact (by (with_reducible repeat (first | apply Kd.V_alloc | apply Kd.V_drewN | apply Kd.V_drew)); exact Kd.V_mono (Kd.V_far (p := ⟨gb158, 5, none⟩) (Kd.V_far (p := ⟨gb158, 4, none⟩) (Kd.V_far (p := ⟨gb158, 3, none⟩) (Kd.V_far (p := ⟨gb158, 2, none⟩) (Kd.V_far (p := ⟨gb158, 1, none⟩) (Kd.V_far (p := ⟨gb158, 0, none⟩) (Kd.V_mono HL157_4.out (fun k_ hk => (⟨hk, hk.2⟩ : _ ∧ k_ ≠ gb158))) (fun _ hk => hk.2) (.int .i64 ((rd_T30 t152 x81_4).f0))) (fun _ hk => hk.2) (.int .i64 ((rd_T30 t152 x81_4).f1))) (fun _ hk => hk.2) (.int .u8 ((rd_T30 t152 x81_4).f2))) (fun _ hk => hk.2) (.int .i64 ((rd_T30 t152 x81_4).f3))) (fun _ hk => hk.2) (.slice A157_4 ((rd_T30 t152 x81_4).f4).length c157_4)) (fun _ hk => hk.2) (.slice A157_5 ((rd_T30 t152 x81_4).f5).length c157_5)) (fun _ hk => ⟨hk.1.1.1.1, ⟨hk.1.1.1.2, ⟨hk.1.1.2, hk.1.2⟩⟩⟩)))⟩; have n4_ : Aside0 (Kd.V (Kd.int .u8) 5 w50 w.heap.size (fun k_ => some k_ ≠ (u5 : Value).ownBlock ∧ some k_ ≠ (u6 : Value).ownBlock ∧ some k_ ≠ (.slice (some ad157) t152.length co42 : Value).ownBlock ∧ k_ ≠ gb158) (.slice A157_5 ((rd_T30 t152 x81_4).f5).length c157_5) ((rd_T30 t152 x81_4).f5)) := ⟨(by rw [hw]; exact (by (with_reducible repeat (first | apply Kd.V_alloc | apply Kd.V_drewN | apply Kd.V_drew)); exact Kd.V_mono (Kd.V_far (p := ⟨gb158, 5, none⟩) (Kd.V_far (p := ⟨gb158, 4, none⟩) (Kd.V_far (p := ⟨gb158, 3, none⟩) (Kd.V_far (p := ⟨gb158, 2, none⟩) (Kd.V_far (p := ⟨gb158, 1, none⟩) (Kd.V_far (p := ⟨gb158, 0, none⟩) (Kd.V_mono HL157_5.out (fun k_ hk => (⟨hk, hk.2⟩ : _ ∧ k_ ≠ gb158))) (fun _ hk => hk.2) (.int .i64 ((rd_T30 t152 x81_4).f0))) (fun _ hk => hk.2) (.int .i64 ((rd_T30 t152 x81_4).f1))) (fun _ hk => hk.2) (.int .u8 ((rd_T30 t152 x81_4).f2))) (fun _ hk => hk.2) (.int .i64 ((rd_T30 t152 x81_4).f3))) (fun _ hk => hk.2) (.slice A157_4 ((rd_T30 t152 x81_4).f4).length c157_4)) (fun _ hk => hk.2) (.slice A157_5 ((rd_T30 t152 x81_4).f5).length c157_5)) (fun _ hk => ⟨hk.1.1.1.1, ⟨hk.1.1.1.2, ⟨hk.1.1.2, hk.1.2⟩⟩⟩)))⟩; have n5_ : Aside0 (w50.heap[gb158]? = some (.cells #[.int .i64 ((rd_T30 t152 x81_4).f0), .int .i64 ((rd_T30 t152 x81_4).f1), .int .u8 ((rd_T30 t152 x81_4).f2), .int .i64 ((rd_T30 t152 x81_4).f3), .slice A157_4 ((rd_T30 t152 x81_4).f4).length c157_4, .slice A157_5 ((rd_T30 t152 x81_4).f5).length c157_5] 30 (0, 0))) := ⟨(by rw [hw]; exact (by (with_reducible repeat (first | refine blk_drewN ?_ _ | refine blk_drew ?_ | refine blk_alloc ?_ _)); refine blk_put (cs := #[.int .i64 ((rd_T30 t152 x81_4).f0), .int .i64 ((rd_T30 t152 x81_4).f1), .int .u8 ((rd_T30 t152 x81_4).f2), .int .i64 ((rd_T30 t152 x81_4).f3), .slice A157_4 ((rd_T30 t152 x81_4).f4).length c157_4, .slice none 0 0]) ?_ 5 _ rfl; (with_reducible repeat (first | refine blk_drewN ?_ _ | refine blk_drew ?_ | refine blk_alloc ?_ _)); refine blk_put (cs := #[.int .i64 ((rd_T30 t152 x81_4).f0), .int .i64 ((rd_T30 t152 x81_4).f1), .int .u8 ((rd_T30 t152 x81_4).f2), .int .i64 ((rd_T30 t152 x81_4).f3), .slice none 0 0, .slice none 0 0]) ?_ 4 _ rfl; (with_reducible repeat (first | refine blk_drewN ?_ _ | refine blk_drew ?_ | refine blk_alloc ?_ _)); refine blk_put (cs := #[.int .i64 ((rd_T30 t152 x81_4).f0), .int .i64 ((rd_T30 t152 x81_4).f1), .int .u8 ((rd_T30 t152 x81_4).f2), .int .i64 0, .slice none 0 0, .slice none 0 0]) ?_ 3 _ rfl; (with_reducible repeat (first | refine blk_drewN ?_ _ | refine blk_drew ?_ | refine blk_alloc ?_ _)); refine blk_put (cs := #[.int .i64 ((rd_T30 t152 x81_4).f0), .int .i64 ((rd_T30 t152 x81_4).f1), .int .u8 0, .int .i64 0, .slice none 0 0, .slice none 0 0]) ?_ 2 _ rfl; (with_reducible repeat (first | refine blk_drewN ?_ _ | refine blk_drew ?_ | refine blk_alloc ?_ _)); refine blk_put (cs := #[.int .i64 ((rd_T30 t152 x81_4).f0), .int .i64 0, .int .u8 0, .int .i64 0, .slice none 0 0, .slice none 0 0]) ?_ 1 _ rfl; (with_reducible repeat (first | refine blk_drewN ?_ _ | refine blk_drew ?_ | refine blk_alloc ?_ _)); refine blk_put (cs := #[.int .i64 0, .int .i64 0, .int .u8 0, .int .i64 0, .slice none 0 0, .slice none 0 0]) ?_ 0 _ rfl; (with_reducible repeat (first | refine blk_drewN ?_ _ | refine blk_drew ?_ | refine blk_alloc ?_ _)); exact BK158.out))⟩; have n6_ : Aside0 (Below w.heap.size w w50) := ⟨(by rw [hw]; exact (by repeat (first | (with_reducible first | exact HB.out | apply below_alloc | apply pw_below_drewN | apply below_drew1 | refine below_set ?_ GE158.out) | exact HB.out)))⟩; clear hw; clear HO_5; clear HO_6; clear HO_79; clear HL157_4; clear HL157_5; clear BK158; clear HB; have HO_5 := n0_; have HO_6 := n1_; have HO_79 := n2_; have HL157_4 := n3_; have HL157_5 := n4_; have BK158 := n5_; have HB := n6_; clear n0_ n1_ n2_ n3_ n4_ n5_ n6_; have hcz51_0 : w50.cell? ⟨gb158, 0, none⟩ = some (.int .i64 ((rd_T30 t152 x81_4).f0)) := (blk_cell BK158.out 0).trans rfl; have hcz51_1 : w50.cell? ⟨gb158, 1, none⟩ = some (.int .i64 ((rd_T30 t152 x81_4).f1)) := (blk_cell BK158.out 1).trans rfl; have hcz51_2 : w50.cell? ⟨gb158, 2, none⟩ = some (.int .u8 ((rd_T30 t152 x81_4).f2)) := (blk_cell BK158.out 2).trans rfl; have hcz51_3 : w50.cell? ⟨gb158, 3, none⟩ = some (.int .i64 ((rd_T30 t152 x81_4).f3)) := (blk_cell BK158.out 3).trans rfl; have hcz51_4 : w50.cell? ⟨gb158, 4, none⟩ = some (.slice A157_4 ((rd_T30 t152 x81_4).f4).length c157_4) := (blk_cell BK158.out 4).trans rfl; have hcz51_5 : w50.cell? ⟨gb158, 5, none⟩ = some (.slice A157_5 ((rd_T30 t152 x81_4).f5).length c157_5) := (blk_cell BK158.out 5).trans rfl; have hfz51_0 := blk_frozen BK158.out 0; have hfz51_1 := blk_frozen BK158.out 1; have hfz51_2 := blk_frozen BK158.out 2; have hfz51_3 := blk_frozen BK158.out 3; have hfz51_4 := blk_frozen BK158.out 4; have hfz51_5 := blk_frozen BK158.out 5) | ((with_reducible refine gate_dst (N := 87) rfl ?_); (try (refine gate_guard (by rfl) ?_; dsimp only)); refine Kd.N_lit k33 _ 33 ?hg (N' := 87) ?hd (xs := ([(⟨(rd_T30 t152 x81_4).f0, (rd_T30 t152 x81_4).f1, (rd_T30 t152 x81_4).f2, (rd_T30 t152 x81_4).f3, (rd_T30 t152 x81_4).f4, (rd_T30 t152 x81_4).f5⟩ : S33)] : List (S33))) (inner := [.int .i64 ((rd_T30 t152 x81_4).f0), .int .i64 ((rd_T30 t152 x81_4).f1), .int .u8 ((rd_T30 t152 x81_4).f2), .int .i64 ((rd_T30 t152 x81_4).f3), .slice A157_4 ((rd_T30 t152 x81_4).f4).length c157_4, .slice A157_5 ((rd_T30 t152 x81_4).f5).length c157_5]) (ok := (fun k_ => some k_ ≠ (u5 : Value).ownBlock ∧ some k_ ≠ (u6 : Value).ownBlock ∧ some k_ ≠ (.slice (some ad157) t152.length co42 : Value).ownBlock ∧ k_ ≠ gb158)) (okp := (fun k_ => some k_ ≠ (u5 : Value).ownBlock ∧ some k_ ≠ (u6 : Value).ownBlock ∧ some k_ ≠ (.slice (some ad157) t152.length co42 : Value).ownBlock ∧ k_ ≠ gb158)) ?hr ?hp (fun _ hk => hk) ((show ∀ k_, w50.heap.size ≤ k_ → (fun k_ => some k_ ≠ (u5 : Value).ownBlock ∧ some k_ ≠ (u6 : Value).ownBlock ∧ some k_ ≠ (.slice (some ad157) t152.length co42 : Value).ownBlock ∧ k_ ≠ gb158) k_ from fun k_ hk => ⟨Kd.fresh' (Kd.R_lt (by (with_reducible repeat (first | apply Kd.R_alloc | apply Kd.R_drewN | apply Kd.R_drew)); exact HO_5.out)) k_ hk, Kd.fresh' (Kd.R_lt (by (with_reducible repeat (first | apply Kd.R_alloc | apply Kd.R_drewN | apply Kd.R_drew)); exact HO_6.out)) k_ hk, Kd.fresh' (Kd.N_lt (by (with_reducible repeat (first | apply Kd.N_alloc | apply Kd.N_drewN | apply Kd.N_drew)); exact HO_79.out)) k_ hk, Kd.freshB (g := gb158) (o := .cells #[.int .i64 ((rd_T30 t152 x81_4).f0), .int .i64 ((rd_T30 t152 x81_4).f1), .int .u8 ((rd_T30 t152 x81_4).f2), .int .i64 ((rd_T30 t152 x81_4).f3), .slice A157_4 ((rd_T30 t152 x81_4).f4).length c157_4, .slice A157_5 ((rd_T30 t152 x81_4).f5).length c157_5] 30 (0, 0)) (by (with_reducible repeat (first | refine blk_drewN ?_ _ | refine blk_drew ?_ | refine blk_alloc ?_ _)); exact BK158.out) k_ hk⟩) _ (Nat.le_refl _)) (Below.refl _ _) (Nat.le_refl _) (by simp) ?_; (case hd => rfl); (case hg => rfl); (case hr => exact lit_run _ 33 1 6 _ [.agg #[.int .i64 ((rd_T30 t152 x81_4).f0), .int .i64 ((rd_T30 t152 x81_4).f1), .int .u8 ((rd_T30 t152 x81_4).f2), .int .i64 ((rd_T30 t152 x81_4).f3), .slice A157_4 ((rd_T30 t152 x81_4).f4).length c157_4, .slice A157_5 ((rd_T30 t152 x81_4).f5).length c157_5]] _ rfl (by kernel_rfl) (by kernel_rfl) (by kernel_rfl) (by decide) rfl (by decide) (by decide) (by go_simp; done) (by intro v hv; obtain rfl := List.mem_singleton.1 hv; rfl) rfl); (case hp => exact (Reps.c6 (show Kd.FK k33 _ _ (⟨(rd_T30 t152 x81_4).f0, (rd_T30 t152 x81_4).f1, (rd_T30 t152 x81_4).f2, (rd_T30 t152 x81_4).f3, (rd_T30 t152 x81_4).f4, (rd_T30 t152 x81_4).f5⟩ : S33) [.int .i64 ((rd_T30 t152 x81_4).f0), .int .i64 ((rd_T30 t152 x81_4).f1), .int .u8 ((rd_T30 t152 x81_4).f2), .int .i64 ((rd_T30 t152 x81_4).f3), .slice A157_4 ((rd_T30 t152 x81_4).f4).length c157_4, .slice A157_5 ((rd_T30 t152 x81_4).f5).length c157_5] from (k33_mkF _ _ (⟨(rd_T30 t152 x81_4).f0, (rd_T30 t152 x81_4).f1, (rd_T30 t152 x81_4).f2, (rd_T30 t152 x81_4).f3, (rd_T30 t152 x81_4).f4, (rd_T30 t152 x81_4).f5⟩ : S33) (Kd.V_reads' (Kd.V_mono (ok' := (fun k_ => some k_ ≠ (u5 : Value).ownBlock ∧ some k_ ≠ (u6 : Value).ownBlock ∧ some k_ ≠ (.slice (some ad157) t152.length co42 : Value).ownBlock ∧ k_ ≠ gb158)) (HL157_4.out) (fun k_ hk => ⟨hk.1, ⟨hk.2.1, ⟨hk.2.2.1, hk.2.2.2⟩⟩⟩))).2.1 (Kd.V_F (Kd.V_mono (ok' := (fun k_ => some k_ ≠ (u5 : Value).ownBlock ∧ some k_ ≠ (u6 : Value).ownBlock ∧ some k_ ≠ (.slice (some ad157) t152.length co42 : Value).ownBlock ∧ k_ ≠ gb158)) (HL157_4.out) (fun k_ hk => ⟨hk.1, ⟨hk.2.1, ⟨hk.2.2.1, hk.2.2.2⟩⟩⟩))) (Kd.V_reads' (Kd.V_mono (ok' := (fun k_ => some k_ ≠ (u5 : Value).ownBlock ∧ some k_ ≠ (u6 : Value).ownBlock ∧ some k_ ≠ (.slice (some ad157) t152.length co42 : Value).ownBlock ∧ k_ ≠ gb158)) (HL157_5.out) (fun k_ hk => ⟨hk.1, ⟨hk.2.1, ⟨hk.2.2.1, hk.2.2.2⟩⟩⟩))).2.1 (Kd.V_F (Kd.V_mono (ok' := (fun k_ => some k_ ≠ (u5 : Value).ownBlock ∧ some k_ ≠ (u6 : Value).ownBlock ∧ some k_ ≠ (.slice (some ad157) t152.length co42 : Value).ownBlock ∧ k_ ≠ gb158)) (HL157_5.out) (fun k_ hk => ⟨hk.1, ⟨hk.2.1, ⟨hk.2.2.1, hk.2.2.2⟩⟩⟩))))) (Reps.none _ _))); intro v160 w52 ho53 hb hg_ hnew_; clear hg_ hnew_; (first | rw [← Ny159.out] at ho53 | (simp only [Int.reduceToNat] at ho53; rw [← Ny159.out] at ho53)); have n0_ := Aside0.mk (Kd.R_below (by (with_reducible repeat (first | apply Kd.R_alloc | apply Kd.R_drewN | apply Kd.R_drew)); exact HO_5.out) hb); have n1_ := Aside0.mk (Kd.R_below (by (with_reducible repeat (first | apply Kd.R_alloc | apply Kd.R_drewN | apply Kd.R_drew)); exact HO_6.out) hb); have n2_ := Aside0.mk (Kd.N_elder' (by (with_reducible repeat (first | apply Kd.N_alloc | apply Kd.N_drewN | apply Kd.N_drew)); exact HO_79.out) (by first | exact Kd.N_base ho53 | exact Kd.S_base ho53) hb); have n3_ := Aside0.mk (Kd.V_elder' (by (with_reducible repeat (first | apply Kd.V_alloc | apply Kd.V_drewN | apply Kd.V_drew)); exact HL157_4.out) (by first | exact Kd.N_base ho53 | exact Kd.S_base ho53) hb); have n4_ := Aside0.mk (Kd.V_elder' (by (with_reducible repeat (first | apply Kd.V_alloc | apply Kd.V_drewN | apply Kd.V_drew)); exact HL157_5.out) (by first | exact Kd.N_base ho53 | exact Kd.S_base ho53) hb); have n5_ := Aside0.mk (Kd.N_lower ho53 (below_size (by repeat (first | (with_reducible first | exact HB.out | apply below_alloc | apply pw_below_drewN | apply below_drew1 | refine below_set ?_ GE158.out) | exact HB.out)))); have n6_ := Aside0.mk (blk_below (g := gb158) (o := .cells #[.int .i64 ((rd_T30 t152 x81_4).f0), .int .i64 ((rd_T30 t152 x81_4).f1), .int .u8 ((rd_T30 t152 x81_4).f2), .int .i64 ((rd_T30 t152 x81_4).f3), .slice A157_4 ((rd_T30 t152 x81_4).f4).length c157_4, .slice A157_5 ((rd_T30 t152 x81_4).f5).length c157_5] 30 (0, 0)) (by (with_reducible repeat (first | refine blk_drewN ?_ _ | refine blk_drew ?_ | refine blk_alloc ?_ _)); exact BK158.out) hb); have n7_ := Aside0.mk (below_step (by repeat (first | (with_reducible first | exact HB.out | apply below_alloc | apply pw_below_drewN | apply below_drew1 | refine below_set ?_ GE158.out) | exact HB.out)) hb); clear HO_5; clear HO_6; clear HO_79; clear HL157_4; clear HL157_5; clear BK158; clear HB; have HO_5 := n0_; have HO_6 := n1_; have HO_79 := n2_; have HL157_4 := n3_; have HL157_5 := n4_; have HO161 := n5_; have BK158 := n6_; have HB := n7_; clear n0_ n1_ n2_ n3_ n4_ n5_ n6_ n7_; clear hb ho53; obtain ⟨Ao54, co54, eo54⟩ := Kd.N_slice HO161.out; subst eo54) | ((with_reducible refine gate_callee (f := 7) rfl ?_); refine goesL_ (some 88) rfl rfl Tryd.func7 (by kernel_rfl) rfl #[.slice Ao54 y159.length co54] rfl (by (try simp only [List.map_toArray, List.map_cons, List.map_nil]); first | done | rfl | (simp only [List.length_drop, List.length_take]; rfl)) ?_; (with_reducible refine (spec_DrawNumbers.calls k4 _ _ y159 t162 t163 t164 _ ?side1 ?side2 A46.out).mono ?_); (case side1 => repeat (first | exact (Kd.N_reads' HO161.out).2.2 | (with_reducible refine Kd.C_alloc ?_ _) | (with_reducible refine Kd.C_drewN ?_ _) | (with_reducible refine Kd.C_drew ?_))); (case side2 => exact (Kd.N_reads' HO161.out).2.1); rintro e w55 ⟨v165, rfl, ho0, hb⟩; refine ⟨_, rfl, ?_⟩; have n0_ := Aside0.mk (Kd.R_elder' (by (with_reducible repeat (first | apply Kd.R_alloc | apply Kd.R_drewN | apply Kd.R_drew)); exact HO_5.out) (Kd.R_base ho0) hb); have n1_ := Aside0.mk (Kd.R_elder' (by (with_reducible repeat (first | apply Kd.R_alloc | apply Kd.R_drewN | apply Kd.R_drew)); exact HO_6.out) (Kd.R_base ho0) hb); have n2_ := Aside0.mk (Kd.N_elder' (by (with_reducible repeat (first | apply Kd.N_alloc | apply Kd.N_drewN | apply Kd.N_drew)); exact HO_79.out) (Kd.R_base ho0) hb); have n3_ := Aside0.mk (Kd.V_elder' (by (with_reducible repeat (first | apply Kd.V_alloc | apply Kd.V_drewN | apply Kd.V_drew)); exact HL157_4.out) (Kd.R_base ho0) hb); have n4_ := Aside0.mk (Kd.V_elder' (by (with_reducible repeat (first | apply Kd.V_alloc | apply Kd.V_drewN | apply Kd.V_drew)); exact HL157_5.out) (Kd.R_base ho0) hb); have n5_ := Aside0.mk (Kd.N_elder' (by (with_reducible repeat (first | apply Kd.N_alloc | apply Kd.N_drewN | apply Kd.N_drew)); exact HO161.out) (Kd.R_base ho0) hb); have n6_ := Aside0.mk (Kd.R_lower (Kd.R_new' (Kd.R_new' ho0 (Kd.R_lt (by (with_reducible repeat (first | apply Kd.R_alloc | apply Kd.R_drewN | apply Kd.R_drew)); exact HO_5.out))) (Kd.R_lt (by (with_reducible repeat (first | apply Kd.R_alloc | apply Kd.R_drewN | apply Kd.R_drew)); exact HO_6.out))) (below_size (by repeat (first | (with_reducible first | exact HB.out | apply below_alloc | apply pw_below_drewN | apply below_drew1 | refine below_set ?_ GE158.out) | exact HB.out)))); have n7_ := Aside0.mk (blk_below (g := gb158) (o := .cells #[.int .i64 ((rd_T30 t152 x81_4).f0), .int .i64 ((rd_T30 t152 x81_4).f1), .int .u8 ((rd_T30 t152 x81_4).f2), .int .i64 ((rd_T30 t152 x81_4).f3), .slice A157_4 ((rd_T30 t152 x81_4).f4).length c157_4, .slice A157_5 ((rd_T30 t152 x81_4).f5).length c157_5] 30 (0, 0)) (by (with_reducible repeat (first | refine blk_drewN ?_ _ | refine blk_drew ?_ | refine blk_alloc ?_ _)); exact BK158.out) hb); have n8_ := Aside0.mk (below_step (by repeat (first | (with_reducible first | exact HB.out | apply below_alloc | apply pw_below_drewN | apply below_drew1 | refine below_set ?_ GE158.out) | exact HB.out)) hb); clear HO_5; clear HO_6; clear HO_79; clear HL157_4; clear HL157_5; clear HO161; clear BK158; clear HB; have HO_5 := n0_; have HO_6 := n1_; have HO_79 := n2_; have HL157_4 := n3_; have HL157_5 := n4_; have HO161 := n5_; have HO166 := n6_; have BK158 := n7_; have HB := n8_; clear n0_ n1_ n2_ n3_ n4_ n5_ n6_ n7_ n8_; (try clear hb); (try clear hb2); (try clear hk); (try clear hi); (try clear ho0)))
                              (try simp only [Act.put, List.setIfInBounds_toArray, List.set_cons_zero, List.set_cons_succ])
                              go_cut [92] (fun v92 wc => ∃ (kq : Nat) (x92_46 : Bool), v92 = .bool x92_46 ∧ Aside0 (laws_FnDrawKeys.j5 kq x5_3 x6_4 t162 t163 t152 (t152.length : Int) x81_4 x92_46 = some r) ∧ Aside0 (kq ≤ k4) ∧ Aside0 (Kd.R (Kd.int .i64) 2 wc w.heap.size (fun k_ => some k_ ≠ (u6 : Value).ownBlock ∧ some k_ ≠ (v165 : Value).ownBlock) u5 x5_3) ∧ Aside0 (Kd.R (Kd.int .i64) 2 wc w.heap.size (fun k_ => some k_ ≠ (u5 : Value).ownBlock ∧ some k_ ≠ (v165 : Value).ownBlock) u6 x6_4) ∧ Aside0 (Kd.R (Kd.int .i64) 2 wc w.heap.size (fun k_ => some k_ ≠ (u5 : Value).ownBlock ∧ some k_ ≠ (u6 : Value).ownBlock) v165 t163) ∧ Aside0 (Kd.N k30 30 wc w.heap.size (fun k_ => some k_ ≠ (u5 : Value).ownBlock ∧ some k_ ≠ (u6 : Value).ownBlock ∧ some k_ ≠ (v165 : Value).ownBlock) (.slice (some ad157) t152.length co42) t152) ∧ Aside0 (Below w.heap.size w wc))
                              case first =>
                                have H := HC47.out
                                clear HC47
                                by_cases c56 : t164 = true
                                · subst c56
                                  have H1 : (laws_FnDrawKeys.j5 k4 x5_3 x6_4 t162 t163 t152 (t152.length : Int) x81_4 ((t163.length : Int) != 1)) = some r := by rw [if_pos rfl] at H; exact H
                                  clear H
                                  have H := H1
                                  clear H1
                                  have H' := Aside0.mk H
                                  clear H
                                  obtain ⟨Ao57, co57, eo57⟩ := Kd.R_slice HO166.out
                                  subst eo57
                                  go_wp2
                                  go_meet
                                  case rel => exact ⟨_, (((t163.length : Int) != 1)), (by first | rfl | (simp; done) | (simp [*]; done)), H', ⟨by have := HJ2.out; have := HJ5.out; have := HK3.out; have := HK4.out; first | omega | exact Nat.le_refl _⟩, ⟨by (with_reducible repeat (first | apply Kd.R_alloc | apply Kd.R_drewN | apply Kd.R_drew)); exact HO_5.out⟩, ⟨by (with_reducible repeat (first | apply Kd.R_alloc | apply Kd.R_drewN | apply Kd.R_drew)); exact HO_6.out⟩, ⟨by (with_reducible repeat (first | apply Kd.R_alloc | apply Kd.R_drewN | apply Kd.R_drew)); exact Kd.R_mono HO166.out (fun _ hk => ⟨hk.1.2, hk.2⟩)⟩, ⟨by (with_reducible repeat (first | apply Kd.N_alloc | apply Kd.N_drewN | apply Kd.N_drew)); exact Kd.N_mono HO_79.out (fun _ hk => ⟨hk.1.1.1, ⟨hk.1.1.2.1, hk.2⟩⟩)⟩, ⟨by repeat (first | (with_reducible first | exact HB.out | apply below_alloc | apply pw_below_drewN | apply below_drew1 | refine below_set ?_ GE158.out) | exact HB.out)⟩⟩
                                · replace c56 := Bool.eq_false_iff.mpr c56
                                  subst c56
                                  have H1 : (laws_FnDrawKeys.j5 k4 x5_3 x6_4 t162 t163 t152 (t152.length : Int) x81_4 true) = some r := by rw [if_neg (show ¬ (false = true) by decide)] at H; exact H
                                  clear H
                                  have H := H1
                                  clear H1
                                  have H' := Aside0.mk H
                                  clear H
                                  go_wp2
                                  go_meet
                                  case rel => exact ⟨_, (true), (by first | rfl | (simp; done) | (simp [*]; done)), H', ⟨by have := HJ2.out; have := HJ5.out; have := HK3.out; have := HK4.out; first | omega | exact Nat.le_refl _⟩, ⟨by (with_reducible repeat (first | apply Kd.R_alloc | apply Kd.R_drewN | apply Kd.R_drew)); exact HO_5.out⟩, ⟨by (with_reducible repeat (first | apply Kd.R_alloc | apply Kd.R_drewN | apply Kd.R_drew)); exact HO_6.out⟩, ⟨by (with_reducible repeat (first | apply Kd.R_alloc | apply Kd.R_drewN | apply Kd.R_drew)); exact Kd.R_mono HO166.out (fun _ hk => ⟨hk.1.2, hk.2⟩)⟩, ⟨by (with_reducible repeat (first | apply Kd.N_alloc | apply Kd.N_drewN | apply Kd.N_drew)); exact Kd.N_mono HO_79.out (fun _ hk => ⟨hk.1.1.1, ⟨hk.1.1.2.1, hk.2⟩⟩)⟩, ⟨by repeat (first | (with_reducible first | exact HB.out | apply below_alloc | apply pw_below_drewN | apply below_drew1 | refine below_set ?_ GE158.out) | exact HB.out)⟩⟩
                              case rest => as_aux_lemma =>
                                clear HC47
                                try clear c1
                                try clear p1
                                try clear q1
                                try clear hx1
                                try clear c2
                                try clear p2
                                try clear q2
                                try clear c3
                                try clear q3
                                try clear c4
                                try clear c4b0
                                try clear c4b1
                                try clear c5
                                try clear c6
                                try clear p6
                                try clear c7
                                try clear c7b0
                                try clear c7b1
                                try clear c8
                                try clear c8b0
                                try clear c8b1
                                try clear c9
                                try clear c12
                                try clear c12b0
                                try clear c13
                                try clear c13b0
                                try clear p13
                                try clear q13
                                try clear hx13
                                try clear c14
                                try clear c14b0
                                try clear p14
                                try clear q14
                                try clear hx14
                                try clear c15
                                try clear p15
                                try clear q15
                                try clear hx15
                                try clear c16
                                try clear c16b0
                                try clear c17
                                try clear c20
                                try clear c20b0
                                try clear c21
                                try clear c21b0
                                try clear q22
                                try clear c23
                                try clear c25
                                try clear c25b0
                                try clear c25b1
                                try clear c26
                                try clear c26b0
                                try clear c26b1
                                try clear c28
                                try clear c28b0
                                try clear c28b1
                                try clear c28b2
                                try clear q30
                                try clear c32
                                try clear c34
                                try clear c34b0
                                try clear c34b1
                                try clear c34b2
                                try clear c43
                                try clear c43b0
                                try clear c44
                                try clear c44b0
                                try clear c45
                                try clear c45b0
                                try clear c56
                                try clear hcz49_0
                                try clear hcz49_1
                                try clear hcz49_2
                                try clear hcz49_3
                                try clear hcz49_4
                                try clear hcz49_5
                                try clear hcz51_0
                                try clear hcz51_1
                                try clear hcz51_2
                                try clear hcz51_3
                                try clear hcz51_4
                                try clear hcz51_5
                                try clear hfz49_0
                                try clear hfz49_1
                                try clear hfz49_2
                                try clear hfz49_3
                                try clear hfz49_4
                                try clear hfz49_5
                                try clear hfz51_0
                                try clear hfz51_1
                                try clear hfz51_2
                                try clear hfz51_3
                                try clear hfz51_4
                                try clear hfz51_5
                                try clear hx138_0
                                try clear hx140_0
                                try clear hx157_0
                                try clear hx157_1
                                try clear hx157_2
                                try clear hx157_3
                                try clear hx157_4
                                try clear hx157_5
                                try clear p1
                                try clear p13
                                try clear p138
                                try clear p14
                                try clear p140
                                try clear p157
                                try clear p2
                                try clear p6
                                try clear q1
                                try clear q13
                                try clear q138
                                try clear q14
                                try clear q140
                                try clear q157
                                try clear q2
                                try clear q22
                                try clear q3
                                try clear q30
                                obtain ⟨kq, x92_46, rfl, HA, HJ46, HO_5, HO_6, HO_13, HO_79, HB⟩ := hcut
                                cases kq with
                                | zero => exact absurd HA.out (by simp [laws_FnDrawKeys.j5])
                                | succ kj46 =>
                                  have H := HA.out
                                  clear HA
                                  simp only [laws_FnDrawKeys.j5] at H
                                  by_cases c58 : x92_46 = true
                                  · subst c58
                                    have H1 : (some false) = some r := by rw [if_pos rfl] at H; exact H
                                    clear H
                                    have H := H1
                                    clear H1
                                    obtain rfl := Option.some.inj H
                                    go_wp2
                                    go_ret
                                    exact ⟨by first | rfl | (simp [errW_none, errW_some] <;> rfl) | (simp [*, errW_none, errW_some] <;> rfl), by repeat (first | (with_reducible first | exact HB.out | apply below_alloc | apply pw_below_drewN | apply below_drew1) | exact HB.out)⟩
                                  · replace c58 := Bool.eq_false_iff.mpr c58
                                    subst c58
                                    have H1 : ((impl_Pack.f 62 0 117).bind fun t167 => (if t162 = t167 then (if 0 < (t163.length : Int) then (if x6_4.length < 17592186044416 then (laws_FnDrawKeys.l1 kj46 x5_3 (x6_4 ++ [rd t163 0]) t152 (t152.length : Int) (wrap64 (x81_4 + 1))) else (none)) else (none)) else ((impl_Pack.f 60 0 117).bind fun t172 => (if t162 = t172 then (if 0 < (t163.length : Int) then (if 0 ≤ (mx 0 (wrap64 ((x6_4.length : Int) - (rd t163 0)))) then (if (mx 0 (wrap64 ((x6_4.length : Int) - (rd t163 0)))) ≤ (x6_4.length : Int) then (laws_FnDrawKeys.l1 kj46 x5_3 (x6_4.take ((mx 0 (wrap64 ((x6_4.length : Int) - (rd t163 0)))) : Int).toNat) t152 (t152.length : Int) (wrap64 (x81_4 + 1))) else (none)) else (none)) else (none)) else (some false))))) = some r := by rw [if_neg (show ¬ (false = true) by decide)] at H; exact H
                                    clear H
                                    have H := H1
                                    clear H1
                                    replace H := Option.bind_eq_some_iff.mp H
                                    obtain ⟨t167, A590, H⟩ := H
                                    replace H : (if t162 = t167 then (if 0 < (t163.length : Int) then (if x6_4.length < 17592186044416 then (laws_FnDrawKeys.l1 kj46 x5_3 (x6_4 ++ [rd t163 0]) t152 (t152.length : Int) (wrap64 (x81_4 + 1))) else (none)) else (none)) else ((impl_Pack.f 60 0 117).bind fun t172 => (if t162 = t172 then (if 0 < (t163.length : Int) then (if 0 ≤ (mx 0 (wrap64 ((x6_4.length : Int) - (rd t163 0)))) then (if (mx 0 (wrap64 ((x6_4.length : Int) - (rd t163 0)))) ≤ (x6_4.length : Int) then (laws_FnDrawKeys.l1 kj46 x5_3 (x6_4.take ((mx 0 (wrap64 ((x6_4.length : Int) - (rd t163 0)))) : Int).toNat) t152 (t152.length : Int) (wrap64 (x81_4 + 1))) else (none)) else (none)) else (none)) else (some false)))) = some r := H
                                    have A59 := Aside0.mk A590
                                    clear A590
                                    by_cases c60 : t162 = t167
                                    · rw [if_pos c60] at H
                                      have c60b0 : (t162 == t167) = true := beq_iff_eq.mpr c60
                                      have c60b1 : (t162 != t167) = false := bne_eq_false_iff_eq.mpr c60
                                      clear c60
                                      by_cases c61 : 0 < (t163.length : Int)
                                      · rw [if_pos c61] at H
                                        have c61b0 : decide (0 < (t163.length : Int)) = true := decide_eq_true c61
                                        have c61b1 : decide (0 < t163.length) = true := decide_eq_true (by omega)
                                        clear c61
                                        by_cases c62 : x6_4.length < 17592186044416
                                        · rw [if_pos c62] at H
                                          have LMc62 := Aside0.mk c62
                                          clear c62
                                          obtain ⟨y169, hy169⟩ : ∃ y_ : List Int, y_ = (x6_4 ++ [rd t163 0]) := ⟨_, rfl⟩
                                          replace H : (laws_FnDrawKeys.l1 kj46 x5_3 y169 t152 (t152.length : Int) (wrap64 (x81_4 + 1))) = some r := by first | (rw [hy169]; with_reducible exact H) | (have H2_ := (Option.bind_some _ _).symm.trans H; rw [hy169]; with_reducible exact H2_) | (have H2_ := (Option.bind_some _ _).symm.trans H; with_reducible exact H2_) | with_reducible exact H | (rw [hy169]; exact H) | exact H
                                          have Ny169 := Aside0.mk hy169
                                          clear hy169
                                          have H' := Aside0.mk H
                                          clear H
                                          go_wp2_with (first | ((with_reducible refine gate_callee (f := 8) rfl ?_); refine goesL_ (some 102) rfl rfl Tryd.func8 (by kernel_rfl) rfl #[.int .u8 62, .int .u8 0, .int .u8 117] rfl (by (try simp only [List.map_toArray, List.map_cons, List.map_nil]); first | done | rfl | (simp only [List.length_drop, List.length_take]; rfl)) ?_; (with_reducible refine (impl_Pack.calls 62 0 117 t167 _ A59.out).mono ?_); rintro e w' ⟨rfl, ⟨nd, rfl⟩⟩; refine ⟨_, rfl, ?_⟩; obtain ⟨Ao63, co63, eo63⟩ := Kd.R_slice HO_13.out; subst eo63; have p168 : 0 ≤ (0 : Int) := (by omega); have q168 : 0 < (t163.length : Int) := of_decide_eq_true (by first | (with_reducible assumption) | assumption); obtain ⟨ad168, e168, hx168_0⟩ := Kd.at_int (Kd.R_reads' HO_13.out).2.2 0 p168 q168; cases e168; have qi168 : (0 < t163.length) = True := eq_true (by omega); (try rw [show ((0 : Int)).toNat = 0 from rfl] at hx168_0); (try rw [Addr.add_zero'] at hx168_0); replace p168 := eq_true p168; replace q168 := eq_true q168) | ((with_reducible refine gate_builtin (b := .append) (xs := #[.tmp 104, .tmp 108]) rfl ?_); (try (refine gate_guard (by rfl) ?_; dsimp only)); at_builtin; refine Kd.R_append (Kd.int .i64) (w0 := w) w.heap.size rfl (.tmp 104) (.tmp 108) 22 2 (.int .i64 0) 8 rfl Tryd.underlying22 info2 rfl (by decide) (by omega) u6 x6_4 (rd t163 0) [.int .i64 (rd t163 0)] (fun k_ => some k_ ≠ (u5 : Value).ownBlock ∧ some k_ ≠ (.slice (some ad168) t163.length co63 : Value).ownBlock) (fun _ => False) rfl rfl ?aP (fun _ hk => hk.elim) ?aF ?aO ?aB ?aS ?aL ?_; (case aP => exact rfl); (case aB => exact (by repeat (first | (with_reducible first | exact HB.out | apply below_alloc | apply pw_below_drewN | apply below_drew1) | exact HB.out))); (case aF => exact (fun k_ hk => ⟨Kd.fresh' (Kd.R_lt (by (with_reducible repeat (first | apply Kd.R_alloc | apply Kd.R_drewN | apply Kd.R_drew)); exact HO_5.out)) k_ hk, Kd.fresh' (Kd.R_lt (by (with_reducible repeat (first | apply Kd.R_alloc | apply Kd.R_drewN | apply Kd.R_drew)); exact HO_13.out)) k_ hk⟩)); (case aO => exact (by (with_reducible repeat (first | apply Kd.R_alloc | apply Kd.R_drewN | apply Kd.R_drew)); exact HO_6.out)); (case aS => exact (below_size (by repeat (first | (with_reducible first | exact HB.out | apply below_alloc | apply pw_below_drewN | apply below_drew1) | exact HB.out)))); (case aL => have := LMc62.out; omega); intro v170 w64 ho hb hg hat; rw [← Ny169.out] at ho; have n0_ := Aside0.mk (Kd.R_after (ok := (fun k_ => some k_ ≠ (.slice (some ad168) t163.length co63 : Value).ownBlock)) (by (with_reducible repeat (first | apply Kd.R_alloc | apply Kd.R_drewN | apply Kd.R_drew)); exact Kd.R_mono HO_5.out (fun _ hk => ⟨hk.2, hk.1⟩)) hg hat); have n1_ := Aside0.mk (Kd.R_after (ok := (fun k_ => some k_ ≠ (u5 : Value).ownBlock)) (by (with_reducible repeat (first | apply Kd.R_alloc | apply Kd.R_drewN | apply Kd.R_drew)); exact HO_13.out) hg hat); have n2_ := Aside0.mk (Kd.N_afterv (ok := (fun k_ => some k_ ≠ (u5 : Value).ownBlock ∧ some k_ ≠ (.slice (some ad168) t163.length co63 : Value).ownBlock)) (by (with_reducible repeat (first | apply Kd.N_alloc | apply Kd.N_drewN | apply Kd.N_drew)); exact Kd.N_mono HO_79.out (fun _ hk => ⟨⟨hk.1, hk.2.2⟩, hk.2.1⟩)) hg hat); have n3_ := Aside0.mk (hb); have n4_ := Aside0.mk (ho); clear HO_5; clear HO_13; clear HO_79; clear HB; clear HO_6; have HO_5 := n0_; have HO_13 := n1_; have HO_79 := n2_; have HB := n3_; have HO171 := n4_; clear n0_ n1_ n2_ n3_ n4_; clear ho hb hg hat))
                                          go_roundg kj46
                                          case measure => have := HJ2.out; have := HJ5.out; have := HK3.out; have := HK4.out; have := HJ46.out; omega
                                          case rel => exact ⟨(y169), (wrap64 (x81_4 + 1)), (by first | rfl | (simp; done) | (simp [*]; done)), H', ⟨by have := HJ2.out; have := HJ5.out; have := HK3.out; have := HK4.out; have := HJ46.out; omega⟩, ⟨by (with_reducible repeat (first | apply Kd.R_alloc | apply Kd.R_drewN | apply Kd.R_drew)); exact Kd.R_mono HO_5.out (fun _ hk => hk.2)⟩, ⟨by (with_reducible repeat (first | apply Kd.R_alloc | apply Kd.R_drewN | apply Kd.R_drew)); exact Kd.R_mono HO171.out (fun _ hk => by first | exact hk.1 | (have h1_ := hk.1; simp only [own_map] at h1_ ⊢; exact h1_))⟩, ⟨by (with_reducible repeat (first | apply Kd.N_alloc | apply Kd.N_drewN | apply Kd.N_drew)); exact Kd.N_mono HO_79.out (fun _ hk => ⟨hk.1.1, hk.2⟩)⟩, ⟨by repeat (first | (with_reducible first | exact HB.out | apply below_alloc | apply pw_below_drewN | apply below_drew1) | exact HB.out)⟩⟩
                                        · rw [if_neg c62] at H
                                          exact absurd H (by simp)
                                      · rw [if_neg c61] at H
                                        exact absurd H (by simp)
                                    · rw [if_neg c60] at H
                                      have c60b0 : (t162 == t167) = false := beq_eq_false_iff_ne.mpr c60
                                      have c60b1 : (t162 != t167) = true := bne_iff_ne.mpr c60
                                      replace H := Option.bind_eq_some_iff.mp H
                                      obtain ⟨t172, A650, H⟩ := H
                                      replace H : (if t162 = t172 then (if 0 < (t163.length : Int) then (if 0 ≤ (mx 0 (wrap64 ((x6_4.length : Int) - (rd t163 0)))) then (if (mx 0 (wrap64 ((x6_4.length : Int) - (rd t163 0)))) ≤ (x6_4.length : Int) then (laws_FnDrawKeys.l1 kj46 x5_3 (x6_4.take ((mx 0 (wrap64 ((x6_4.length : Int) - (rd t163 0)))) : Int).toNat) t152 (t152.length : Int) (wrap64 (x81_4 + 1))) else (none)) else (none)) else (none)) else (some false)) = some r := H
                                      have A65 := Aside0.mk A650
                                      clear A650
                                      by_cases c66 : t162 = t172
                                      · rw [if_pos c66] at H
                                        have c66b0 : (t162 == t172) = true := beq_iff_eq.mpr c66
                                        have c66b1 : (t162 != t172) = false := bne_eq_false_iff_eq.mpr c66
                                        clear c66
                                        by_cases c67 : 0 < (t163.length : Int)
                                        · rw [if_pos c67] at H
                                          have c67b0 : decide (0 < (t163.length : Int)) = true := decide_eq_true c67
                                          have c67b1 : decide (0 < t163.length) = true := decide_eq_true (by omega)
                                          clear c67
                                          obtain ⟨ji68, hji68⟩ : ∃ j_ : Int, (mx 0 (wrap64 ((x6_4.length : Int) - (rd t163 0)))) = j_ := ⟨_, rfl⟩
                                          replace H : (if 0 ≤ (ji68) then (if (ji68) ≤ (x6_4.length : Int) then (laws_FnDrawKeys.l1 kj46 x5_3 (x6_4.take ((ji68) : Int).toNat) t152 (t152.length : Int) (wrap64 (x81_4 + 1))) else (none)) else (none)) = some r := by first | (rw [hji68] at H; exact H) | (simp only [hji68] at H ⊢; exact H)
                                          (try rw [hji68] at A59)
                                          (try rw [hji68] at A65)
                                          have hji68_ : (if 0 < (wrap64 ((x6_4.length : Int) - (rd t163 0))) then (wrap64 ((x6_4.length : Int) - (rd t163 0))) else 0) = ji68 := hji68
                                          by_cases c69 : 0 ≤ (ji68)
                                          · rw [if_pos c69] at H
                                            have c69b0 := eq_true c69
                                            have c69b1 : decide (0 ≤ (ji68)) = true := decide_eq_true c69
                                            clear c69
                                            by_cases c70 : (ji68) ≤ (x6_4.length : Int)
                                            · rw [if_pos c70] at H
                                              have c70b0 := eq_true c70
                                              have c70b1 : decide ((ji68) ≤ (x6_4.length : Int)) = true := decide_eq_true c70
                                              clear c70
                                              obtain ⟨y174, hy174⟩ : ∃ y_ : List Int, y_ = (x6_4.take ((ji68) : Int).toNat) := ⟨_, rfl⟩
                                              replace H : (laws_FnDrawKeys.l1 kj46 x5_3 y174 t152 (t152.length : Int) (wrap64 (x81_4 + 1))) = some r := by first | (rw [hy174]; with_reducible exact H) | (have H2_ := (Option.bind_some _ _).symm.trans H; rw [hy174]; with_reducible exact H2_) | (have H2_ := (Option.bind_some _ _).symm.trans H; with_reducible exact H2_) | with_reducible exact H | (rw [hy174]; exact H) | exact H
                                              have Ny174 := Aside0.mk hy174
                                              clear hy174
                                              have H' := Aside0.mk H
                                              clear H
                                              go_wp2_with (first | ((with_reducible refine gate_callee (f := 8) rfl ?_); refine goesL_ (some 102) rfl rfl Tryd.func8 (by kernel_rfl) rfl #[.int .u8 62, .int .u8 0, .int .u8 117] rfl (by (try simp only [List.map_toArray, List.map_cons, List.map_nil]); first | done | rfl | (simp only [List.length_drop, List.length_take]; rfl)) ?_; (with_reducible refine (impl_Pack.calls 62 0 117 t167 _ A59.out).mono ?_); rintro e w' ⟨rfl, ⟨nd, rfl⟩⟩; refine ⟨_, rfl, ?_⟩) | ((with_reducible refine gate_callee (f := 8) rfl ?_); refine goesL_ (some 112) rfl rfl Tryd.func8 (by kernel_rfl) rfl #[.int .u8 60, .int .u8 0, .int .u8 117] rfl (by (try simp only [List.map_toArray, List.map_cons, List.map_nil]); first | done | rfl | (simp only [List.length_drop, List.length_take]; rfl)) ?_; (with_reducible refine (impl_Pack.calls 60 0 117 t172 _ A65.out).mono ?_); rintro e w' ⟨rfl, ⟨nd, rfl⟩⟩; refine ⟨_, rfl, ?_⟩; obtain ⟨Ao71, co71, eo71⟩ := Kd.R_slice HO_6.out; subst eo71; obtain ⟨Ao72, co72, eo72⟩ := Kd.R_slice HO_13.out; subst eo72; have p173 : 0 ≤ (0 : Int) := (by omega); have q173 : 0 < (t163.length : Int) := of_decide_eq_true (by first | (with_reducible assumption) | assumption); obtain ⟨ad173, e173, hx173_0⟩ := Kd.at_int (Kd.R_reads' HO_13.out).2.2 0 p173 q173; cases e173; have qi173 : (0 < t163.length) = True := eq_true (by omega); (try rw [show ((0 : Int)).toNat = 0 from rfl] at hx173_0); (try rw [Addr.add_zero'] at hx173_0); replace p173 := eq_true p173; replace q173 := eq_true q173; have q73 : ((ji68) : Int) ≤ ((x6_4.length : Int) : Int) := of_decide_eq_true (by first | (with_reducible assumption) | assumption); obtain ⟨i073, hi073, _, hsz73, _⟩ := info_parts info2; have hcut73 := cut_to (P := Tryd.prog) 22 2 .i64 Tryd.underlying22 hi073 Ao71 x6_4.length co71 (ji68) (of_decide_eq_true (by first | (with_reducible assumption) | assumption)) q73 (Kd.R_reads' HO_6.out).2.1; have hr73 := Kd.R_take (m := ((ji68) : Int).toNat) HO_6.out (by omega); have hy73 : y174.length = ((ji68) : Int).toNat := (by rw [Ny174.out, List.length_take]; omega); rw [← Ny174.out] at hr73; rw [← hy73] at hr73 hcut73; clear hy73 hi073 hsz73 HO_6; have HO176 := Aside0.mk hr73; clear hr73; replace q73 := eq_true q73))
                                              go_roundg kj46
                                              case measure => have := HJ2.out; have := HJ5.out; have := HK3.out; have := HK4.out; have := HJ46.out; omega
                                              case rel => exact ⟨(y174), (wrap64 (x81_4 + 1)), (by first | rfl | (simp; done) | (simp [*]; done)), H', ⟨by have := HJ2.out; have := HJ5.out; have := HK3.out; have := HK4.out; have := HJ46.out; omega⟩, ⟨by (with_reducible repeat (first | apply Kd.R_alloc | apply Kd.R_drewN | apply Kd.R_drew)); exact Kd.R_mono HO_5.out (fun _ hk => by first | exact hk.1 | (have h1_ := hk.1; simp only [own_map] at h1_ ⊢; exact h1_))⟩, ⟨by (with_reducible repeat (first | apply Kd.R_alloc | apply Kd.R_drewN | apply Kd.R_drew)); exact Kd.R_mono HO176.out (fun _ hk => by first | exact hk.1 | (have h1_ := hk.1; simp only [own_map] at h1_ ⊢; exact h1_))⟩, ⟨by (with_reducible repeat (first | apply Kd.N_alloc | apply Kd.N_drewN | apply Kd.N_drew)); exact Kd.N_mono HO_79.out (fun _ hk => by first | exact ⟨hk.1, hk.2.1⟩ | (have h1_ := hk.1; have h2_ := hk.2.1; simp only [own_map] at h1_ h2_ ⊢; exact ⟨h1_, h2_⟩))⟩, ⟨by repeat (first | (with_reducible first | exact HB.out | apply below_alloc | apply pw_below_drewN | apply below_drew1) | exact HB.out)⟩⟩
                                            · rw [if_neg c70] at H
                                              exact absurd H (by simp)
                                          · rw [if_neg c69] at H
                                            exact absurd H (by simp)
                                        · rw [if_neg c67] at H
                                          exact absurd H (by simp)
                                      · rw [if_neg c66] at H
                                        have c66b0 : (t162 == t172) = false := beq_eq_false_iff_ne.mpr c66
                                        have c66b1 : (t162 != t172) = true := bne_iff_ne.mpr c66
                                        obtain rfl := Option.some.inj H
                                        go_wp2_with (first | ((with_reducible refine gate_callee (f := 8) rfl ?_); refine goesL_ (some 102) rfl rfl Tryd.func8 (by kernel_rfl) rfl #[.int .u8 62, .int .u8 0, .int .u8 117] rfl (by (try simp only [List.map_toArray, List.map_cons, List.map_nil]); first | done | rfl | (simp only [List.length_drop, List.length_take]; rfl)) ?_; (with_reducible refine (impl_Pack.calls 62 0 117 t167 _ A59.out).mono ?_); rintro e w' ⟨rfl, ⟨nd, rfl⟩⟩; refine ⟨_, rfl, ?_⟩) | ((with_reducible refine gate_callee (f := 8) rfl ?_); refine goesL_ (some 112) rfl rfl Tryd.func8 (by kernel_rfl) rfl #[.int .u8 60, .int .u8 0, .int .u8 117] rfl (by (try simp only [List.map_toArray, List.map_cons, List.map_nil]); first | done | rfl | (simp only [List.length_drop, List.length_take]; rfl)) ?_; (with_reducible refine (impl_Pack.calls 60 0 117 t172 _ A65.out).mono ?_); rintro e w' ⟨rfl, ⟨nd, rfl⟩⟩; refine ⟨_, rfl, ?_⟩))
                                        go_ret
                                        exact ⟨by first | rfl | (simp [errW_none, errW_some] <;> rfl) | (simp [*, errW_none, errW_some] <;> rfl), by repeat (first | (with_reducible first | exact HB.out | apply below_alloc | apply pw_below_drewN | apply below_drew1) | exact HB.out)⟩
                            · rw [if_neg c45] at H
                              exact absurd H (by simp)
                          · rw [if_neg c44] at H
                            exact absurd H (by simp)
                        · rw [if_neg c43] at H
                          have c43b0 : decide (x81_4 < (t152.length : Int)) = false := decide_eq_false c43
                          clear c43
                          replace H := Option.bind_eq_some_iff.mp H
                          obtain ⟨t155, A740, H⟩ := H
                          replace H : (if t155 = true then ((laws_drawAwake.f).bind fun t156 => (some t156)) else (some false)) = some r := H
                          have A74 := Aside0.mk A740
                          clear A740
                          by_cases c75 : t155 = true
                          · subst c75
                            have H1 : ((laws_drawAwake.f).bind fun t156 => (some t156)) = some r := by rw [if_pos rfl] at H; exact H
                            clear H
                            have H := H1
                            clear H1
                            replace H := Option.bind_eq_some_iff.mp H
                            obtain ⟨t156, A760, H⟩ := H
                            replace H : (some t156) = some r := H
                            have A76 := Aside0.mk A760
                            clear A760
                            obtain rfl := Option.some.inj H
                            obtain ⟨Ao77, co77, eo77⟩ := Kd.R_slice HO_6.out
                            subst eo77
                            obtain ⟨Ao78, co78, eo78⟩ := Kd.R_slice HO_5.out
                            subst eo78
                            go_wp2_with (first | ((with_reducible refine gate_callee (f := 9) rfl ?_); refine goesL_ (some 126) rfl rfl Tryd.func9 (by kernel_rfl) rfl #[.slice Ao77 x6_4.length co77, .slice Ao78 x5_3.length co78] rfl (by (try simp only [List.map_toArray, List.map_cons, List.map_nil]); first | done | rfl | (simp only [List.length_drop, List.length_take]; rfl)) ?_; (with_reducible refine (spec_SameInts.calls k4 _ _ x6_4 _ _ x5_3 true _ ?side1 ?side2 ?side3 ?side4 A74.out).mono ?_); (case side1 => repeat (first | exact (Kd.R_reads' HO_6.out).2.2 | (with_reducible refine Kd.C_alloc ?_ _) | (with_reducible refine Kd.C_drewN ?_ _) | (with_reducible refine Kd.C_drew ?_))); (case side2 => exact (Kd.R_reads' HO_6.out).2.1); (case side3 => repeat (first | exact (Kd.R_reads' HO_5.out).2.2 | (with_reducible refine Kd.C_alloc ?_ _) | (with_reducible refine Kd.C_drewN ?_ _) | (with_reducible refine Kd.C_drew ?_))); (case side4 => exact (Kd.R_reads' HO_5.out).2.1); rintro e w' ⟨rfl, ⟨nd, rfl⟩⟩; refine ⟨_, rfl, ?_⟩) | (go_at_call 4; (with_reducible refine (laws_drawAwake.calls  t156 _ ?side1 A76.out).mono ?_); (case side1 => exact XTab.below HT.out (by repeat (first | (with_reducible first | exact HB.out | apply below_alloc | apply pw_below_drewN | apply below_drew1) | exact HB.out))); rintro e w79 ⟨rfl, hb⟩; have n0_ := Aside0.mk (Kd.R_below (by (with_reducible repeat (first | apply Kd.R_alloc | apply Kd.R_drewN | apply Kd.R_drew)); exact HO_5.out) hb); have n1_ := Aside0.mk (Kd.R_below (by (with_reducible repeat (first | apply Kd.R_alloc | apply Kd.R_drewN | apply Kd.R_drew)); exact HO_6.out) hb); have n2_ := Aside0.mk (Kd.N_below (by (with_reducible repeat (first | apply Kd.N_alloc | apply Kd.N_drewN | apply Kd.N_drew)); exact HO_79.out) hb); have n3_ := Aside0.mk (below_step (by repeat (first | (with_reducible first | exact HB.out | apply below_alloc | apply pw_below_drewN | apply below_drew1) | exact HB.out)) hb); clear HO_5; clear HO_6; clear HO_79; clear HB; have HO_5 := n0_; have HO_6 := n1_; have HO_79 := n2_; have HB := n3_; clear n0_ n1_ n2_ n3_; (try clear hb); (try clear hb2); (try clear hk); (try clear hi)))
                            go_ret
                            exact ⟨by first | rfl | (simp [errW_none, errW_some] <;> rfl) | (simp [*, errW_none, errW_some] <;> rfl), by repeat (first | (with_reducible first | exact HB.out | apply below_alloc | apply pw_below_drewN | apply below_drew1) | exact HB.out)⟩
                          · replace c75 := Bool.eq_false_iff.mpr c75
                            subst c75
                            have H1 : (some false) = some r := by rw [if_neg (show ¬ (false = true) by decide)] at H; exact H
                            clear H
                            have H := H1
                            clear H1
                            obtain rfl := Option.some.inj H
                            obtain ⟨Ao80, co80, eo80⟩ := Kd.R_slice HO_6.out
                            subst eo80
                            obtain ⟨Ao81, co81, eo81⟩ := Kd.R_slice HO_5.out
                            subst eo81
                            go_wp2_with (first | ((with_reducible refine gate_callee (f := 9) rfl ?_); refine goesL_ (some 126) rfl rfl Tryd.func9 (by kernel_rfl) rfl #[.slice Ao80 x6_4.length co80, .slice Ao81 x5_3.length co81] rfl (by (try simp only [List.map_toArray, List.map_cons, List.map_nil]); first | done | rfl | (simp only [List.length_drop, List.length_take]; rfl)) ?_; (with_reducible refine (spec_SameInts.calls k4 _ _ x6_4 _ _ x5_3 false _ ?side1 ?side2 ?side3 ?side4 A74.out).mono ?_); (case side1 => repeat (first | exact (Kd.R_reads' HO_6.out).2.2 | (with_reducible refine Kd.C_alloc ?_ _) | (with_reducible refine Kd.C_drewN ?_ _) | (with_reducible refine Kd.C_drew ?_))); (case side2 => exact (Kd.R_reads' HO_6.out).2.1); (case side3 => repeat (first | exact (Kd.R_reads' HO_5.out).2.2 | (with_reducible refine Kd.C_alloc ?_ _) | (with_reducible refine Kd.C_drewN ?_ _) | (with_reducible refine Kd.C_drew ?_))); (case side4 => exact (Kd.R_reads' HO_5.out).2.1); rintro e w' ⟨rfl, ⟨nd, rfl⟩⟩; refine ⟨_, rfl, ?_⟩))
                            go_ret
                            exact ⟨by first | rfl | (simp [errW_none, errW_some] <;> rfl) | (simp [*, errW_none, errW_some] <;> rfl), by repeat (first | (with_reducible first | exact HB.out | apply below_alloc | apply pw_below_drewN | apply below_drew1) | exact HB.out)⟩
end Go.Proofs.YtkklhlakklcnbaaDoor.Y
end
