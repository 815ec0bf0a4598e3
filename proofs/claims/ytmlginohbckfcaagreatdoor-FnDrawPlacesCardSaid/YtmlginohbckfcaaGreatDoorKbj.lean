/- Texts of this claim, joined: Y19 Y27D Y27 XScrLaws WSized. Of each, what the claim uses. -/
import Derived.Test.YtmlginohbckfcaaGreatDoorKac
import Derived.Test.YtmlginohbckfcaaGreatDoorKaq
import Derived.Test.YtmlginohbckfcaaGreatDoorKat
import Derived.Test.YtmlginohbckfcaaGreatDoorKbd
import Derived.Test.YtmlginohbckfcaaGreatDoorKbe
import Derived.Test.YtmlginohbckfcaaGreatDoorKbf
import Derived.Test.YtmlginohbckfcaaGreatDoorKbg
import Derived.Test.YtmlginohbckfcaaGreatDoorKbi
import Derived.SizedLaws
import Derived.ChangeSlices
section
namespace Go.Proofs.YtmlginohbckfcaaGreatDoor.Y
open Go.RowKit Go.Proofs.YtmlginohbckfcaaGreatDoorW.PrintWords Go.Proofs.YtmlginohbckfcaaGreatDoorW.PrintLast Go.Proofs.YtmlginohbckfcaaGreatDoorW.PrintMore
attribute [local go_sem] max2_int min2_int max_two min_two max_three min_three max_four min_four   -- for this text's walks alone
set_option linter.unusedVariables false
set_option linter.unusedSimpArgs false
set_option maxHeartbeats 8000000 in
set_option maxRecDepth 100000 in
theorem laws_drawAwake.calls  (r : Bool) (w : World) (hT : XTab w) (h : laws_drawAwake.f  = some r) :
    Calls Tryz.prog 12 #[] w fun e w' => e = .returned (.bool r) ∧ Below w.heap.size w w' := by
  have HT := Aside0.mk hT
  clear hT
  have HB := Aside0.mk (Below.refl w.heap.size w)
  have H : ((impl_MakeNumber.f 0 3).bind fun t272 => ((gosem_conv.f t272).bind fun t273 => ((impl_Feed.f 32 4096 t273).bind fun t276 => (if (t276.length : Int) = 1 then (if 0 < (t276.length : Int) then (if ((rd_T69 t276 0).f0) = 2 then (some (((rd_T69 t276 0).f3) == 65)) else (some false)) else (none)) else (some false))))) = some r := h
  clear h
  replace H := Option.bind_eq_some_iff.mp H
  obtain ⟨t272, A10, H⟩ := H
  replace H : ((gosem_conv.f t272).bind fun t273 => ((impl_Feed.f 32 4096 t273).bind fun t276 => (if (t276.length : Int) = 1 then (if 0 < (t276.length : Int) then (if ((rd_T69 t276 0).f0) = 2 then (some (((rd_T69 t276 0).f3) == 65)) else (some false)) else (none)) else (some false)))) = some r := H
  have A1 := Aside0.mk A10
  clear A10
  replace H := Option.bind_eq_some_iff.mp H
  obtain ⟨t273, A20, H⟩ := H
  replace H : ((impl_Feed.f 32 4096 t273).bind fun t276 => (if (t276.length : Int) = 1 then (if 0 < (t276.length : Int) then (if ((rd_T69 t276 0).f0) = 2 then (some (((rd_T69 t276 0).f3) == 65)) else (some false)) else (none)) else (some false))) = some r := H
  have A2 := Aside0.mk A20
  clear A20
  replace H := Option.bind_eq_some_iff.mp H
  obtain ⟨t276, A30, H⟩ := H
  replace H : (if (t276.length : Int) = 1 then (if 0 < (t276.length : Int) then (if ((rd_T69 t276 0).f0) = 2 then (some (((rd_T69 t276 0).f3) == 65)) else (some false)) else (none)) else (some false)) = some r := H
  have A3 := Aside0.mk A30
  clear A30
  by_cases c4 : (t276.length : Int) = 1
  · rw [if_pos c4] at H
    have c4b0 : ((t276.length : Int) == 1) = true := beq_iff_eq.mpr c4
    have c4b1 : ((t276.length : Int) != 1) = false := bne_eq_false_iff_eq.mpr c4
    clear c4
    by_cases c5 : 0 < (t276.length : Int)
    · rw [if_pos c5] at H
      have c5b0 : decide (0 < (t276.length : Int)) = true := decide_eq_true c5
      have c5b1 : decide (0 < t276.length) = true := decide_eq_true (by omega)
      clear c5
      by_cases c6 : ((rd_T69 t276 0).f0) = 2
      · rw [if_pos c6] at H
        have c6b0 : (((rd_T69 t276 0).f0) == 2) = true := beq_iff_eq.mpr c6
        have c6b1 : (((rd_T69 t276 0).f0) != 2) = false := bne_eq_false_iff_eq.mpr c6
        clear c6
        obtain rfl := Option.some.inj H
        go_enter Tryz.func12, Tryz.ntmps12
        go_wp2_with (first | ((with_reducible refine gate_callee (f := 8) rfl ?_); refine goesL_ (some 2) rfl rfl Tryz.func8 (by kernel_rfl) rfl #[.int .i64 0, .int .i64 3] rfl (by (try simp only [List.map_toArray, List.map_cons, List.map_nil]); first | done | rfl | (simp only [List.length_drop, List.length_take]; rfl)) ?_; (with_reducible refine (impl_MakeNumber.calls 0 3 t272 _ ?side1 A1.out).mono ?_); (case side1 => exact XTab.below HT.out (by repeat (first | (with_reducible first | exact HB.out | apply below_alloc | apply pw_below_drewN | apply below_drew1) | exact HB.out))); rintro e w7 ⟨rfl, hb⟩; refine ⟨_, rfl, ?_⟩; have n0_ := Aside0.mk (below_step (by repeat (first | (with_reducible first | exact HB.out | apply below_alloc | apply pw_below_drewN | apply below_drew1) | exact HB.out)) hb); clear HB; have HB := n0_; clear n0_; (try clear hb); (try clear hb2); (try clear hk); (try clear hi)) | ((with_reducible refine gate_dst (N := 3) rfl ?_); refine conv_ev 9 30 5 rfl rfl Tryz.underlying9 Tryz.underlying30 Tryz.underlying5 t272 rfl A2.out ?_; rintro e w8 ⟨v274, rfl, ho0, hb⟩; refine ⟨_, rfl, ?_⟩; have n0_ := Aside0.mk (Kd.V_lower (Kd.V_mono (ok' := fun k_ => True) ho0 (fun k_ hk_ => trivial)) (below_size (by repeat (first | (with_reducible first | exact HB.out | apply below_alloc | apply pw_below_drewN | apply below_drew1) | exact HB.out)))); have n1_ := Aside0.mk (below_step (by repeat (first | (with_reducible first | exact HB.out | apply below_alloc | apply pw_below_drewN | apply below_drew1) | exact HB.out)) hb); clear HB; have HO275 := n0_; have HB := n1_; clear n0_ n1_; (try clear hb); (try clear hb2); (try clear hk); (try clear hi); (try clear ho0); obtain ⟨Ao9, co9, eo9⟩ := Kd.V_slice HO275.out; subst eo9) | ((with_reducible refine gate_callee (f := 11) rfl ?_); refine goesL_ (some 4) rfl rfl Tryz.func11 (by kernel_rfl) rfl #[.int .i64 32, .int .i64 4096, .slice Ao9 t273.length co9] rfl (by (try simp only [List.map_toArray, List.map_cons, List.map_nil]); first | done | rfl | (simp only [List.length_drop, List.length_take]; rfl)) ?_; (with_reducible refine (impl_Feed.calls 32 4096 _ _ t273 t276 _ ?side1 ?side2 A3.out).mono ?_); (case side1 => repeat (first | exact (Kd.V_reads' HO275.out).2.2 | (with_reducible refine Kd.C_alloc ?_ _) | (with_reducible refine Kd.C_drewN ?_ _) | (with_reducible refine Kd.C_drew ?_))); (case side2 => exact (Kd.V_reads' HO275.out).2.1); rintro e w10 ⟨v277, rfl, ho0, hb⟩; refine ⟨_, rfl, ?_⟩; have n0_ := Aside0.mk (Kd.V_elder' (by (with_reducible repeat (first | apply Kd.V_alloc | apply Kd.V_drewN | apply Kd.V_drew)); exact HO275.out) (Kd.S_base ho0) hb); have n1_ := Aside0.mk (Kd.S_lower ho0 (below_size (by repeat (first | (with_reducible first | exact HB.out | apply below_alloc | apply pw_below_drewN | apply below_drew1) | exact HB.out)))); have n2_ := Aside0.mk (below_step (by repeat (first | (with_reducible first | exact HB.out | apply below_alloc | apply pw_below_drewN | apply below_drew1) | exact HB.out)) hb); clear HO275; clear HB; have HO275 := n0_; have HO278 := n1_; have HB := n2_; clear n0_ n1_ n2_; (try clear hb); (try clear hb2); (try clear hk); (try clear hi); (try clear ho0); obtain ⟨Ao11, co11, eo11⟩ := Kd.S_slice HO278.out; subst eo11; have p279 : 0 ≤ (0 : Int) := (by omega); have q279 : 0 < (t276.length : Int) := of_decide_eq_true (by first | (with_reducible assumption) | assumption); obtain ⟨ad279, A279_4, c279_4, A279_5, c279_5, e279, hx279_0, hx279_1, hx279_2, hx279_3, hx279_4, hx279_5, hl279_4, hi279_4, hl279_5, hi279_5⟩ := at_T69 (Kd.S_reads' HO278.out).2.2 0 p279 q279; cases e279; obtain ⟨ce279, hce279, hMe279, hcc279⟩ := Kd.S_get HO278.out z69 0 p279 (by first | exact q279 | exact of_decide_eq_true (by first | (with_reducible assumption) | assumption) | (have e_ := (Kd.S_reads' HO278.out).1; omega)); obtain ⟨ve279_4, ve279_5, rfl, ge279_4, ge279_5⟩ := k69_openM hMe279; have hv279_4 := hcc279 4 _ rfl; rw [add_field _ _ 4 (by omega)] at hv279_4; replace hv279_4 := Option.some.inj (hv279_4.symm.trans hx279_4); rw [hv279_4] at ge279_4; have HL279_4 := Aside0.mk (show Kd.R (Kd.int .i64) 2 _ _ _ _ ((rd_T69 t276 0).f4) from ge279_4); clear hv279_4 ge279_4; have hv279_5 := hcc279 5 _ rfl; rw [add_field _ _ 5 (by omega)] at hv279_5; replace hv279_5 := Option.some.inj (hv279_5.symm.trans hx279_5); rw [hv279_5] at ge279_5; have HL279_5 := Aside0.mk (show Kd.R (Kd.int .u8) 5 _ _ _ _ ((rd_T69 t276 0).f5) from ge279_5); clear hv279_5 ge279_5; clear hcc279 hce279; have qi279 : (0 < t276.length) = True := eq_true (by omega); (try rw [show ((0 : Int)).toNat = 0 from rfl] at hx279_0); (try rw [show 0 * 6 = 0 from rfl] at hx279_0); (try rw [Addr.add_zero'] at hx279_0); (try rw [show ((0 : Int)).toNat = 0 from rfl] at hx279_1); (try rw [show 0 * 6 = 0 from rfl] at hx279_1); (try rw [Addr.add_zero'] at hx279_1); (try rw [show ((0 : Int)).toNat = 0 from rfl] at hx279_2); (try rw [show 0 * 6 = 0 from rfl] at hx279_2); (try rw [Addr.add_zero'] at hx279_2); (try rw [show ((0 : Int)).toNat = 0 from rfl] at hx279_3); (try rw [show 0 * 6 = 0 from rfl] at hx279_3); (try rw [Addr.add_zero'] at hx279_3); (try rw [show ((0 : Int)).toNat = 0 from rfl] at hx279_4); (try rw [show 0 * 6 = 0 from rfl] at hx279_4); (try rw [Addr.add_zero'] at hx279_4); (try rw [show ((0 : Int)).toNat = 0 from rfl] at hx279_5); (try rw [show 0 * 6 = 0 from rfl] at hx279_5); (try rw [Addr.add_zero'] at hx279_5); have HR279_4 := Aside0.mk hi279_4; have HC279_4 := Aside0.mk hl279_4; clear hi279_4 hl279_4; have HR279_5 := Aside0.mk hi279_5; have HC279_5 := Aside0.mk hl279_5; clear hi279_5 hl279_5; replace p279 := eq_true p279; replace q279 := eq_true q279; have p280 : 0 ≤ (0 : Int) := (by omega); have q280 : 0 < (t276.length : Int) := of_decide_eq_true (by first | (with_reducible assumption) | assumption); obtain ⟨ad280, A280_4, c280_4, A280_5, c280_5, e280, hx280_0, hx280_1, hx280_2, hx280_3, hx280_4, hx280_5, hl280_4, hi280_4, hl280_5, hi280_5⟩ := at_T69 (Kd.S_reads' HO278.out).2.2 0 p280 q280; obtain rfl : ad279 = ad280 := (by injection e280); obtain ⟨ce280, hce280, hMe280, hcc280⟩ := Kd.S_get HO278.out z69 0 p280 (by first | exact q280 | exact of_decide_eq_true (by first | (with_reducible assumption) | assumption) | (have e_ := (Kd.S_reads' HO278.out).1; omega)); obtain ⟨ve280_4, ve280_5, rfl, ge280_4, ge280_5⟩ := k69_openM hMe280; have hv280_4 := hcc280 4 _ rfl; rw [add_field _ _ 4 (by omega)] at hv280_4; replace hv280_4 := Option.some.inj (hv280_4.symm.trans hx280_4); rw [hv280_4] at ge280_4; have HL280_4 := Aside0.mk (show Kd.R (Kd.int .i64) 2 _ _ _ _ ((rd_T69 t276 0).f4) from ge280_4); clear hv280_4 ge280_4; have hv280_5 := hcc280 5 _ rfl; rw [add_field _ _ 5 (by omega)] at hv280_5; replace hv280_5 := Option.some.inj (hv280_5.symm.trans hx280_5); rw [hv280_5] at ge280_5; have HL280_5 := Aside0.mk (show Kd.R (Kd.int .u8) 5 _ _ _ _ ((rd_T69 t276 0).f5) from ge280_5); clear hv280_5 ge280_5; clear hcc280 hce280; have qi280 : (0 < t276.length) = True := eq_true (by omega); (try rw [show ((0 : Int)).toNat = 0 from rfl] at hx280_0); (try rw [show 0 * 6 = 0 from rfl] at hx280_0); (try rw [Addr.add_zero'] at hx280_0); (try rw [show ((0 : Int)).toNat = 0 from rfl] at hx280_1); (try rw [show 0 * 6 = 0 from rfl] at hx280_1); (try rw [Addr.add_zero'] at hx280_1); (try rw [show ((0 : Int)).toNat = 0 from rfl] at hx280_2); (try rw [show 0 * 6 = 0 from rfl] at hx280_2); (try rw [Addr.add_zero'] at hx280_2); (try rw [show ((0 : Int)).toNat = 0 from rfl] at hx280_3); (try rw [show 0 * 6 = 0 from rfl] at hx280_3); (try rw [Addr.add_zero'] at hx280_3); (try rw [show ((0 : Int)).toNat = 0 from rfl] at hx280_4); (try rw [show 0 * 6 = 0 from rfl] at hx280_4); (try rw [Addr.add_zero'] at hx280_4); (try rw [show ((0 : Int)).toNat = 0 from rfl] at hx280_5); (try rw [show 0 * 6 = 0 from rfl] at hx280_5); (try rw [Addr.add_zero'] at hx280_5); have HR280_4 := Aside0.mk hi280_4; have HC280_4 := Aside0.mk hl280_4; clear hi280_4 hl280_4; have HR280_5 := Aside0.mk hi280_5; have HC280_5 := Aside0.mk hl280_5; clear hi280_5 hl280_5; replace p280 := eq_true p280; replace q280 := eq_true q280; have ea_ := Option.some.inj (hx279_4.symm.trans hx280_4); injection ea_ with ea_ en_ ec_; subst ea_; subst ec_; clear en_; have ea_ := Option.some.inj (hx279_5.symm.trans hx280_5); injection ea_ with ea_ en_ ec_; subst ea_; subst ec_; clear en_))
        go_ret
        exact ⟨by first | rfl | (simp [errW_none, errW_some] <;> rfl) | (simp [*, errW_none, errW_some] <;> rfl), by repeat (first | (with_reducible first | exact HB.out | apply below_alloc | apply pw_below_drewN | apply below_drew1) | exact HB.out)⟩
      · rw [if_neg c6] at H
        have c6b0 : (((rd_T69 t276 0).f0) == 2) = false := beq_eq_false_iff_ne.mpr c6
        have c6b1 : (((rd_T69 t276 0).f0) != 2) = true := bne_iff_ne.mpr c6
        obtain rfl := Option.some.inj H
        go_enter Tryz.func12, Tryz.ntmps12
        go_wp2_with (first | ((with_reducible refine gate_callee (f := 8) rfl ?_); refine goesL_ (some 2) rfl rfl Tryz.func8 (by kernel_rfl) rfl #[.int .i64 0, .int .i64 3] rfl (by (try simp only [List.map_toArray, List.map_cons, List.map_nil]); first | done | rfl | (simp only [List.length_drop, List.length_take]; rfl)) ?_; (with_reducible refine (impl_MakeNumber.calls 0 3 t272 _ ?side1 A1.out).mono ?_); (case side1 => exact XTab.below HT.out (by repeat (first | (with_reducible first | exact HB.out | apply below_alloc | apply pw_below_drewN | apply below_drew1) | exact HB.out))); rintro e w12 ⟨rfl, hb⟩; refine ⟨_, rfl, ?_⟩; have n0_ := Aside0.mk (below_step (by repeat (first | (with_reducible first | exact HB.out | apply below_alloc | apply pw_below_drewN | apply below_drew1) | exact HB.out)) hb); clear HB; have HB := n0_; clear n0_; (try clear hb); (try clear hb2); (try clear hk); (try clear hi)) | ((with_reducible refine gate_dst (N := 3) rfl ?_); refine conv_ev 9 30 5 rfl rfl Tryz.underlying9 Tryz.underlying30 Tryz.underlying5 t272 rfl A2.out ?_; rintro e w13 ⟨v274, rfl, ho0, hb⟩; refine ⟨_, rfl, ?_⟩; have n0_ := Aside0.mk (Kd.V_lower (Kd.V_mono (ok' := fun k_ => True) ho0 (fun k_ hk_ => trivial)) (below_size (by repeat (first | (with_reducible first | exact HB.out | apply below_alloc | apply pw_below_drewN | apply below_drew1) | exact HB.out)))); have n1_ := Aside0.mk (below_step (by repeat (first | (with_reducible first | exact HB.out | apply below_alloc | apply pw_below_drewN | apply below_drew1) | exact HB.out)) hb); clear HB; have HO275 := n0_; have HB := n1_; clear n0_ n1_; (try clear hb); (try clear hb2); (try clear hk); (try clear hi); (try clear ho0); obtain ⟨Ao14, co14, eo14⟩ := Kd.V_slice HO275.out; subst eo14) | ((with_reducible refine gate_callee (f := 11) rfl ?_); refine goesL_ (some 4) rfl rfl Tryz.func11 (by kernel_rfl) rfl #[.int .i64 32, .int .i64 4096, .slice Ao14 t273.length co14] rfl (by (try simp only [List.map_toArray, List.map_cons, List.map_nil]); first | done | rfl | (simp only [List.length_drop, List.length_take]; rfl)) ?_; (with_reducible refine (impl_Feed.calls 32 4096 _ _ t273 t276 _ ?side1 ?side2 A3.out).mono ?_); (case side1 => repeat (first | exact (Kd.V_reads' HO275.out).2.2 | (with_reducible refine Kd.C_alloc ?_ _) | (with_reducible refine Kd.C_drewN ?_ _) | (with_reducible refine Kd.C_drew ?_))); (case side2 => exact (Kd.V_reads' HO275.out).2.1); rintro e w15 ⟨v277, rfl, ho0, hb⟩; refine ⟨_, rfl, ?_⟩; have n0_ := Aside0.mk (Kd.V_elder' (by (with_reducible repeat (first | apply Kd.V_alloc | apply Kd.V_drewN | apply Kd.V_drew)); exact HO275.out) (Kd.S_base ho0) hb); have n1_ := Aside0.mk (Kd.S_lower ho0 (below_size (by repeat (first | (with_reducible first | exact HB.out | apply below_alloc | apply pw_below_drewN | apply below_drew1) | exact HB.out)))); have n2_ := Aside0.mk (below_step (by repeat (first | (with_reducible first | exact HB.out | apply below_alloc | apply pw_below_drewN | apply below_drew1) | exact HB.out)) hb); clear HO275; clear HB; have HO275 := n0_; have HO278 := n1_; have HB := n2_; clear n0_ n1_ n2_; (try clear hb); (try clear hb2); (try clear hk); (try clear hi); (try clear ho0); obtain ⟨Ao16, co16, eo16⟩ := Kd.S_slice HO278.out; subst eo16; have p279 : 0 ≤ (0 : Int) := (by omega); have q279 : 0 < (t276.length : Int) := of_decide_eq_true (by first | (with_reducible assumption) | assumption); obtain ⟨ad279, A279_4, c279_4, A279_5, c279_5, e279, hx279_0, hx279_1, hx279_2, hx279_3, hx279_4, hx279_5, hl279_4, hi279_4, hl279_5, hi279_5⟩ := at_T69 (Kd.S_reads' HO278.out).2.2 0 p279 q279; cases e279; obtain ⟨ce279, hce279, hMe279, hcc279⟩ := Kd.S_get HO278.out z69 0 p279 (by first | exact q279 | exact of_decide_eq_true (by first | (with_reducible assumption) | assumption) | (have e_ := (Kd.S_reads' HO278.out).1; omega)); obtain ⟨ve279_4, ve279_5, rfl, ge279_4, ge279_5⟩ := k69_openM hMe279; have hv279_4 := hcc279 4 _ rfl; rw [add_field _ _ 4 (by omega)] at hv279_4; replace hv279_4 := Option.some.inj (hv279_4.symm.trans hx279_4); rw [hv279_4] at ge279_4; have HL279_4 := Aside0.mk (show Kd.R (Kd.int .i64) 2 _ _ _ _ ((rd_T69 t276 0).f4) from ge279_4); clear hv279_4 ge279_4; have hv279_5 := hcc279 5 _ rfl; rw [add_field _ _ 5 (by omega)] at hv279_5; replace hv279_5 := Option.some.inj (hv279_5.symm.trans hx279_5); rw [hv279_5] at ge279_5; have HL279_5 := Aside0.mk (show Kd.R (Kd.int .u8) 5 _ _ _ _ ((rd_T69 t276 0).f5) from ge279_5); clear hv279_5 ge279_5; clear hcc279 hce279; have qi279 : (0 < t276.length) = True := eq_true (by omega); (try rw [show ((0 : Int)).toNat = 0 from rfl] at hx279_0); (try rw [show 0 * 6 = 0 from rfl] at hx279_0); (try rw [Addr.add_zero'] at hx279_0); (try rw [show ((0 : Int)).toNat = 0 from rfl] at hx279_1); (try rw [show 0 * 6 = 0 from rfl] at hx279_1); (try rw [Addr.add_zero'] at hx279_1); (try rw [show ((0 : Int)).toNat = 0 from rfl] at hx279_2); (try rw [show 0 * 6 = 0 from rfl] at hx279_2); (try rw [Addr.add_zero'] at hx279_2); (try rw [show ((0 : Int)).toNat = 0 from rfl] at hx279_3); (try rw [show 0 * 6 = 0 from rfl] at hx279_3); (try rw [Addr.add_zero'] at hx279_3); (try rw [show ((0 : Int)).toNat = 0 from rfl] at hx279_4); (try rw [show 0 * 6 = 0 from rfl] at hx279_4); (try rw [Addr.add_zero'] at hx279_4); (try rw [show ((0 : Int)).toNat = 0 from rfl] at hx279_5); (try rw [show 0 * 6 = 0 from rfl] at hx279_5); (try rw [Addr.add_zero'] at hx279_5); have HR279_4 := Aside0.mk hi279_4; have HC279_4 := Aside0.mk hl279_4; clear hi279_4 hl279_4; have HR279_5 := Aside0.mk hi279_5; have HC279_5 := Aside0.mk hl279_5; clear hi279_5 hl279_5; replace p279 := eq_true p279; replace q279 := eq_true q279))
        go_ret
        exact ⟨by first | rfl | (simp [errW_none, errW_some] <;> rfl) | (simp [*, errW_none, errW_some] <;> rfl), by repeat (first | (with_reducible first | exact HB.out | apply below_alloc | apply pw_below_drewN | apply below_drew1) | exact HB.out)⟩
    · rw [if_neg c5] at H
      exact absurd H (by simp)
  · rw [if_neg c4] at H
    have c4b0 : ((t276.length : Int) == 1) = false := beq_eq_false_iff_ne.mpr c4
    have c4b1 : ((t276.length : Int) != 1) = true := bne_iff_ne.mpr c4
    obtain rfl := Option.some.inj H
    go_enter Tryz.func12, Tryz.ntmps12
    go_wp2_with (first | ((with_reducible refine gate_callee (f := 8) rfl ?_); refine goesL_ (some 2) rfl rfl Tryz.func8 (by kernel_rfl) rfl #[.int .i64 0, .int .i64 3] rfl (by (try simp only [List.map_toArray, List.map_cons, List.map_nil]); first | done | rfl | (simp only [List.length_drop, List.length_take]; rfl)) ?_; (with_reducible refine (impl_MakeNumber.calls 0 3 t272 _ ?side1 A1.out).mono ?_); (case side1 => exact XTab.below HT.out (by repeat (first | (with_reducible first | exact HB.out | apply below_alloc | apply pw_below_drewN | apply below_drew1) | exact HB.out))); rintro e w17 ⟨rfl, hb⟩; refine ⟨_, rfl, ?_⟩; have n0_ := Aside0.mk (below_step (by repeat (first | (with_reducible first | exact HB.out | apply below_alloc | apply pw_below_drewN | apply below_drew1) | exact HB.out)) hb); clear HB; have HB := n0_; clear n0_; (try clear hb); (try clear hb2); (try clear hk); (try clear hi)) | ((with_reducible refine gate_dst (N := 3) rfl ?_); refine conv_ev 9 30 5 rfl rfl Tryz.underlying9 Tryz.underlying30 Tryz.underlying5 t272 rfl A2.out ?_; rintro e w18 ⟨v274, rfl, ho0, hb⟩; refine ⟨_, rfl, ?_⟩; have n0_ := Aside0.mk (Kd.V_lower (Kd.V_mono (ok' := fun k_ => True) ho0 (fun k_ hk_ => trivial)) (below_size (by repeat (first | (with_reducible first | exact HB.out | apply below_alloc | apply pw_below_drewN | apply below_drew1) | exact HB.out)))); have n1_ := Aside0.mk (below_step (by repeat (first | (with_reducible first | exact HB.out | apply below_alloc | apply pw_below_drewN | apply below_drew1) | exact HB.out)) hb); clear HB; have HO275 := n0_; have HB := n1_; clear n0_ n1_; (try clear hb); (try clear hb2); (try clear hk); (try clear hi); (try clear ho0); obtain ⟨Ao19, co19, eo19⟩ := Kd.V_slice HO275.out; subst eo19) | ((with_reducible refine gate_callee (f := 11) rfl ?_); refine goesL_ (some 4) rfl rfl Tryz.func11 (by kernel_rfl) rfl #[.int .i64 32, .int .i64 4096, .slice Ao19 t273.length co19] rfl (by (try simp only [List.map_toArray, List.map_cons, List.map_nil]); first | done | rfl | (simp only [List.length_drop, List.length_take]; rfl)) ?_; (with_reducible refine (impl_Feed.calls 32 4096 _ _ t273 t276 _ ?side1 ?side2 A3.out).mono ?_); (case side1 => repeat (first | exact (Kd.V_reads' HO275.out).2.2 | (with_reducible refine Kd.C_alloc ?_ _) | (with_reducible refine Kd.C_drewN ?_ _) | (with_reducible refine Kd.C_drew ?_))); (case side2 => exact (Kd.V_reads' HO275.out).2.1); rintro e w20 ⟨v277, rfl, ho0, hb⟩; refine ⟨_, rfl, ?_⟩; have n0_ := Aside0.mk (Kd.V_elder' (by (with_reducible repeat (first | apply Kd.V_alloc | apply Kd.V_drewN | apply Kd.V_drew)); exact HO275.out) (Kd.S_base ho0) hb); have n1_ := Aside0.mk (Kd.S_lower ho0 (below_size (by repeat (first | (with_reducible first | exact HB.out | apply below_alloc | apply pw_below_drewN | apply below_drew1) | exact HB.out)))); have n2_ := Aside0.mk (below_step (by repeat (first | (with_reducible first | exact HB.out | apply below_alloc | apply pw_below_drewN | apply below_drew1) | exact HB.out)) hb); clear HO275; clear HB; have HO275 := n0_; have HO278 := n1_; have HB := n2_; clear n0_ n1_ n2_; (try clear hb); (try clear hb2); (try clear hk); (try clear hi); (try clear ho0); obtain ⟨Ao21, co21, eo21⟩ := Kd.S_slice HO278.out; subst eo21))
    go_ret
    exact ⟨by first | rfl | (simp [errW_none, errW_some] <;> rfl) | (simp [*, errW_none, errW_some] <;> rfl), by repeat (first | (with_reducible first | exact HB.out | apply below_alloc | apply pw_below_drewN | apply below_drew1) | exact HB.out)⟩
end Go.Proofs.YtmlginohbckfcaaGreatDoor.Y
end
section
namespace Go.Proofs.YtmlginohbckfcaaGreatDoor.Y
open Go.RowKit Go.Proofs.YtmlginohbckfcaaGreatDoorW.PrintWords Go.Proofs.YtmlginohbckfcaaGreatDoorW.PrintLast Go.Proofs.YtmlginohbckfcaaGreatDoorW.PrintMore
attribute [local go_sem] max2_int min2_int max_two min_two max_three min_three max_four min_four   -- for this text's walks alone
set_option linter.unusedVariables false
set_option linter.unusedSimpArgs false
/-! ### laws_drawSize: function 15 -/
def laws_drawSize.f (a0 : Int) : Option (Int × Int) := some (wrap64 ((wrap64 (Int.tmod a0 16)) + 2), (((Int.tdiv a0 16) % 256) % 8) + 2)
end Go.Proofs.YtmlginohbckfcaaGreatDoor.Y
end
section
namespace Go.Proofs.YtmlginohbckfcaaGreatDoor.Y
open Go.RowKit Go.Proofs.YtmlginohbckfcaaGreatDoorW.PrintWords Go.Proofs.YtmlginohbckfcaaGreatDoorW.PrintLast Go.Proofs.YtmlginohbckfcaaGreatDoorW.PrintMore
attribute [local go_sem] max2_int min2_int max_two min_two max_three min_three max_four min_four   -- for this text's walks alone
set_option linter.unusedVariables false
set_option linter.unusedSimpArgs false
set_option maxHeartbeats 8000000 in
set_option maxRecDepth 100000 in
theorem laws_drawSize.calls (a0 : Int) (r1 : Int) (r2 : Int) (w : World) (h : laws_drawSize.f a0 = some (r1, r2)) :
    Calls Tryz.prog 15 #[.int .u8 a0] w fun e w' => e = .returned (.tuple #[.int .i64 r1, .int .i64 r2]) ∧ Drawn0 w w' := by
  have H : (some (wrap64 ((wrap64 (Int.tmod a0 16)) + 2), (((Int.tdiv a0 16) % 256) % 8) + 2)) = some (r1, r2) := h
  clear h
  simp only [Option.some.injEq, Prod.mk.injEq] at H
  obtain ⟨rfl, rfl⟩ := H
  go_enter Tryz.func15, Tryz.ntmps15
  go_wp2
  go_ret2
  exact ⟨by first | rfl | (simp; done) | (simp [*]; done), by repeat (first | exact Drawn0.refl _ | apply Drawn0.step)⟩
end Go.Proofs.YtmlginohbckfcaaGreatDoor.Y
end
section
namespace Go.Proofs.YtmlginohbckfcaaGreatDoor.Y
open Go.RowKit Go.Proofs.YtmlginohbckfcaaGreatDoorW.PrintWords Go.Proofs.YtmlginohbckfcaaGreatDoorW.PrintLast Go.Proofs.YtmlginohbckfcaaGreatDoorW.PrintMore
set_option linter.unusedSimpArgs false
set_option linter.unusedVariables false
/-- A screen's size. -/
theorem size_f2 (a : Int) (h0 : 0 ≤ a) (h1 : a ≤ 255) : ∃ Wd H : Nat, laws_drawSize.f a = some ((Wd : Int), (H : Int)) ∧ (1 ≤ Wd ∧ Wd ≤ 99) ∧ 1 ≤ H ∧ H ≤ 99 := by
  have e1 : Int.tmod a 16 = a % 16 := Int.tmod_eq_emod_of_nonneg h0
  have e2 : Int.tdiv a 16 = a / 16 := Int.tdiv_eq_ediv_of_nonneg h0
  refine ⟨(a % 16 + 2).toNat, ((a / 16) % 256 % 8 + 2).toNat, ?_, by omega, by omega, by omega⟩
  unfold laws_drawSize.f
  rw [e1, e2, wrap64_of (a % 16) (by omega) (by omega), wrap64_of _ (by omega) (by omega), Int.toNat_of_nonneg (by omega), Int.toNat_of_nonneg (by omega)]
theorem size_f (a : Int) (h0 : 0 ≤ a) (h1 : a ≤ 255) : ∃ Wd H : Nat, laws_drawSize.f a = some ((Wd : Int), (H : Int)) ∧ (1 ≤ Wd ∧ Wd ≤ 1000) ∧ 1 ≤ H ∧ H ≤ 1000 := by
  obtain ⟨Wd, H, h2, h3, h4⟩ := size_f2 a h0 h1
  exact ⟨Wd, H, h2, by omega, by omega⟩
/-- A right plan, fed: the events that are told, and what they are read as. -/
theorem plan_fed (l : List Op) (h : RightPlan l) : ∃ (T : List Nat) (evs : List X.Ev), laws_drawText.f 400 l = some (ints T) ∧ T.length ≤ 2000 ∧ X.run .gr T = some (.gr, evs) ∧ evs.length ≤ 400 ∧ impl_Feed.f 32 4096 (ints T) = some (evs.map X.toS) ∧
    ∃ q : List (Op × List X.Ev), q.map (·.1) = l ∧ (q.map (·.2)).flatten = evs ∧ (∀ p ∈ q, Good p) ∧ Apart false l := by
  obtain ⟨ps, T, p0, p1, p2, p3, p4, p5, p6⟩ := plan_run l h
  obtain ⟨q, q1, q2, q3⟩ := plan_good l h ps p0
  exact ⟨T, _, p1 400 (Nat.le_refl _), p3, p4, p6, feed_l T (by omega) p4, q, q1, by rw [q2], q3, apart_of l h.2.1⟩
theorem read_fed (q : List (Op × List X.Ev)) (hg : ∀ p ∈ q, Good p) (ha : Apart false (q.map (·.1))) (hf : ((q.map (·.2)).flatten).length ≤ 1000000) : spec_DrawRead.f ((((q.map (·.2)).flatten).map X.toS).map cv) = some (q.map (·.1), true) := by
  rw [List.map_map, show (cv ∘ X.toS) = evS from rfl]
  exact good_read q hg ha hf
/-- A right plan, fed and read: it is the plan. -/
theorem plan_all (l : List Op) (h : RightPlan l) : ∃ tl el, laws_drawText.f 400 l = some tl ∧ impl_Feed.f 32 4096 tl = some el ∧ el.length ≤ 400 ∧ spec_DrawRead.f (el.map cv) = some (l, true) := by
  obtain ⟨T, evs, p1, p2, p3, p4, p5, q, q1, q2, q3, q4⟩ := plan_fed l h
  have hread := read_fed q q3 (by rw [q1]; exact q4) (by rw [q2]; omega)
  rw [q1, q2] at hread
  exact ⟨_, _, p1, p5, by rw [List.length_map]; exact p4, hread⟩
/-- A right plan's text: its events, operation by operation. -/
theorem plan_text (l : List Op) (h : RightPlan l) : ∃ (s : ByteArray) (q : List (Op × List X.Ev)), laws_drawText.f 400 l = some (bytesOf s) ∧ s.size ≤ 2000 ∧ X.run .gr (X.nb s) = some (.gr, (q.map (·.2)).flatten) ∧ ((q.map (·.2)).flatten).length ≤ 400 ∧ q.map (·.1) = l ∧ (∀ p ∈ q, Good p) ∧ Apart false l := by
  obtain ⟨ps, T, p0, p1, p2, p3, p4, p5, p6⟩ := plan_run l h
  obtain ⟨q, q1, q2, q3⟩ := plan_good l h ps p0
  have hT : X.nb (joinT (ps.map (·.1)) ⟨#[]⟩) = T := by
    rw [nb_join, List.map_map, p2]
    rfl
  have e : ints T = bytesOf (joinT (ps.map (·.1)) ⟨#[]⟩) := by rw [bytesOf_ints, hT]
  have hs := X.nb_len (joinT (ps.map (·.1)) ⟨#[]⟩)
  rw [hT] at hs
  exact ⟨joinT (ps.map (·.1)) ⟨#[]⟩, q, by rw [← e]; exact p1 400 (Nat.le_refl _), by omega, by rw [hT, q2]; exact p4, by rw [q2]; exact p6, q1, q3, apart_of l h.2.1⟩
theorem str_bytes (s : ByteArray) : strOfNums (bytesOf s) = s := by
  apply ByteArray.ext
  apply Array.toList_inj.1
  simp [strOfNums, bytesOf, Function.comp_def]
/-- An operation that is no text: its text and its event. -/
theorem op_piece (o : Op) (h : Right o) (h60 : o.f0 ≠ 60) : ∃ t e, (∀ k, 200 ≤ k → laws_drawMade.f k o.f0 o.f1 o.f2 o.f3 o.f4 = some t) ∧ One t e ∧ Good (o, [e]) := by
  obtain ⟨t, evs, m1, m2⟩ := made o h 200 (Nat.le_refl _)
  rcases m2 with ⟨h1, _⟩ | ⟨_, e, rfl, he⟩
  · exact absurd h1 h60
  · exact ⟨t, e, fun k hk => lift (laws_drawMade.mono _ _ _ _ _) hk m1, he, Or.inr ⟨h60, e, rfl, made_reads o h 200 (Nat.le_refl _) m1 he h60⟩⟩
theorem pair_piece (k n m : Int) (hk : k = 0 ∨ k = 1) (hn : 1 ≤ n ∧ n ≤ 99) (hm : 1 ≤ m ∧ m ≤ 99) : ∃ t e, impl_MakePair.f 300 k n m = some t ∧ One t e ∧ Good (⟨40 + k, n, m, ⟨#[]⟩, []⟩, [e]) := by
  obtain ⟨t, e, h1, h2, h3⟩ := op_piece ⟨40 + k, n, m, ⟨#[]⟩, []⟩ (Or.inr (Or.inl ⟨by show 40 + k = 40 ∨ 40 + k = 41; omega, ⟨by rw [ByteArray.toList_eq], rfl⟩, hn.1, hn.2, hm.1, hm.2⟩)) (by show 40 + k ≠ 60; omega)
  refine ⟨t, e, ?_, h2, h3⟩
  have := h1 301 (by omega)
  rw [pair_made 300 _ (by show 40 + k = 40 ∨ 40 + k = 41 ∨ 40 + k = 42; omega)] at this
  rw [← this]
  show impl_MakePair.f 300 k n m = impl_MakePair.f 300 (40 + k - 40) n m
  congr 1
  omega
/-- A text, fed and read. -/
theorem text_fed (S : ByteArray) (hs : S.size ≤ 100000) (q : List (Op × List X.Ev)) (hr : X.run .gr (X.nb S) = some (.gr, (q.map (·.2)).flatten)) (hg : ∀ p ∈ q, Good p) (ha : Apart false (q.map (·.1))) (hf : ((q.map (·.2)).flatten).length ≤ 1000) :
    ∃ el, gosem_conv.f S = some (bytesOf S) ∧ impl_Feed.f 32 4096 (bytesOf S) = some el ∧ el.length ≤ 1000 ∧ spec_DrawRead.f (el.map cv) = some (q.map (·.1), true) :=
  ⟨_, conv_f S (by omega), feed_f S (by omega) hr, by rw [List.length_map]; exact hf, read_fed q hg ha (by omega)⟩
theorem apart_any : ∀ (m : List Op) (b : Bool), Apart true m → Apart b m
  | [], _, _ => trivial
  | o :: r, b, h => ⟨fun hh => h.1 ⟨rfl, hh.2⟩, h.2⟩
theorem apart_snoc : ∀ (l : List Op) (b : Bool) (m : List Op), Apart b l → Apart true m → Apart b (l ++ m)
  | [], b, m, _, hm => apart_any m b hm
  | o :: r, b, m, h, hm => ⟨h.1, apart_snoc r _ m h.2 hm⟩
theorem apart_cons (o : Op) (l : List Op) (b : Bool) (h : o.f0 ≠ 60) (hl : Apart false l) : Apart b (o :: l) := ⟨fun hh => h hh.2, by rw [decide_eq_false h]; exact hl⟩
end Go.Proofs.YtmlginohbckfcaaGreatDoor.Y
end
section
namespace Go.Proofs.YtmlginohbckfcaaGreatDoorW.PrintWords
open Go.ChangeShapes Go.WideShapes
end Go.Proofs.YtmlginohbckfcaaGreatDoorW.PrintWords
end
