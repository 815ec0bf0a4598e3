/- Texts of this claim, joined: Y39 Y40 WSized XOpen. Of each, what the claim uses. -/
import Derived.Test.YtjkjnhcnmjknmaaGreatDoorKac
import Derived.Test.YtjkjnhcnmjknmaaGreatDoorKar
import Derived.Test.YtjkjnhcnmjknmaaGreatDoorKaq
import Derived.SizedLaws
import Derived.ChangeSlices
import Derived.Test.YtjkjnhcnmjknmaaGreatDoorProg
import Derived.ChangeArms
import Derived.DataReads
section
namespace Go.Proofs.YtjkjnhcnmjknmaaGreatDoor.Y
open Go.RowKit Go.Proofs.YtjkjnhcnmjknmaaGreatDoorW.PrintWords Go.Proofs.YtjkjnhcnmjknmaaGreatDoorW.PrintLast Go.Proofs.YtjkjnhcnmjknmaaGreatDoorW.PrintMore
attribute [local go_sem] max2_int min2_int max_two min_two max_three min_three max_four min_four   -- for this text's walks alone
set_option linter.unusedVariables false
set_option linter.unusedSimpArgs false
set_option maxHeartbeats 8000000 in
set_option maxRecDepth 100000 in
theorem laws_drawAwake.calls  (r : Bool) (w : World) (hT : XTab w) (h : laws_drawAwake.f  = some r) :
    Calls Tryz.prog 8 #[] w fun e w' => e = .returned (.bool r) ∧ Below w.heap.size w w' := by
  have HT := Aside0.mk hT
  clear hT
  have HB := Aside0.mk (Below.refl w.heap.size w)
  have H : ((impl_MakeNumber.f 0 3).bind fun t113 => ((gosem_conv.f t113).bind fun t114 => ((impl_Feed.f 32 4096 t114).bind fun t117 => (if (t117.length : Int) = 1 then (if 0 < (t117.length : Int) then (if ((rd_T55 t117 0).f0) = 2 then (some (((rd_T55 t117 0).f3) == 65)) else (some false)) else (none)) else (some false))))) = some r := h
  clear h
  replace H := Option.bind_eq_some_iff.mp H
  obtain ⟨t113, A10, H⟩ := H
  replace H : ((gosem_conv.f t113).bind fun t114 => ((impl_Feed.f 32 4096 t114).bind fun t117 => (if (t117.length : Int) = 1 then (if 0 < (t117.length : Int) then (if ((rd_T55 t117 0).f0) = 2 then (some (((rd_T55 t117 0).f3) == 65)) else (some false)) else (none)) else (some false)))) = some r := H
  have A1 := Aside0.mk A10
  clear A10
  replace H := Option.bind_eq_some_iff.mp H
  obtain ⟨t114, A20, H⟩ := H
  replace H : ((impl_Feed.f 32 4096 t114).bind fun t117 => (if (t117.length : Int) = 1 then (if 0 < (t117.length : Int) then (if ((rd_T55 t117 0).f0) = 2 then (some (((rd_T55 t117 0).f3) == 65)) else (some false)) else (none)) else (some false))) = some r := H
  have A2 := Aside0.mk A20
  clear A20
  replace H := Option.bind_eq_some_iff.mp H
  obtain ⟨t117, A30, H⟩ := H
  replace H : (if (t117.length : Int) = 1 then (if 0 < (t117.length : Int) then (if ((rd_T55 t117 0).f0) = 2 then (some (((rd_T55 t117 0).f3) == 65)) else (some false)) else (none)) else (some false)) = some r := H
  have A3 := Aside0.mk A30
  clear A30
  by_cases c4 : (t117.length : Int) = 1
  · rw [if_pos c4] at H
    have c4b0 : ((t117.length : Int) == 1) = true := beq_iff_eq.mpr c4
    have c4b1 : ((t117.length : Int) != 1) = false := bne_eq_false_iff_eq.mpr c4
    clear c4
    by_cases c5 : 0 < (t117.length : Int)
    · rw [if_pos c5] at H
      have c5b0 : decide (0 < (t117.length : Int)) = true := decide_eq_true c5
      have c5b1 : decide (0 < t117.length) = true := decide_eq_true (by omega)
      clear c5
      by_cases c6 : ((rd_T55 t117 0).f0) = 2
      · rw [if_pos c6] at H
        have c6b0 : (((rd_T55 t117 0).f0) == 2) = true := beq_iff_eq.mpr c6
        have c6b1 : (((rd_T55 t117 0).f0) != 2) = false := bne_eq_false_iff_eq.mpr c6
        clear c6
        obtain rfl := Option.some.inj H
        go_enter Tryz.func8, Tryz.ntmps8
        go_wp2_with (first | ((with_reducible refine gate_callee (f := 29) rfl ?_); refine goesL_ (some 2) rfl rfl Tryz.func29 (by kernel_rfl) rfl #[.int .i64 0, .int .i64 3] rfl (by (try simp only [List.map_toArray, List.map_cons, List.map_nil]); first | done | rfl | (simp only [List.length_drop, List.length_take]; rfl)) ?_; (with_reducible refine (impl_MakeNumber.calls 0 3 t113 _ ?side1 A1.out).mono ?_); (case side1 => exact XTab.below HT.out (by repeat (first | (with_reducible first | exact HB.out | apply below_alloc | apply pw_below_drewN | apply below_drew1) | exact HB.out))); rintro e w7 ⟨rfl, hb⟩; refine ⟨_, rfl, ?_⟩; have n0_ := Aside0.mk (below_step (by repeat (first | (with_reducible first | exact HB.out | apply below_alloc | apply pw_below_drewN | apply below_drew1) | exact HB.out)) hb); clear HB; have HB := n0_; clear n0_; (try clear hb); (try clear hb2); (try clear hk); (try clear hi)) | ((with_reducible refine gate_dst (N := 3) rfl ?_); refine conv_ev 9 32 5 rfl rfl Tryz.underlying9 Tryz.underlying32 Tryz.underlying5 t113 rfl A2.out ?_; rintro e w8 ⟨v115, rfl, ho0, hb⟩; refine ⟨_, rfl, ?_⟩; have n0_ := Aside0.mk (Kd.V_lower (Kd.V_mono (ok' := fun k_ => True) ho0 (fun k_ hk_ => trivial)) (below_size (by repeat (first | (with_reducible first | exact HB.out | apply below_alloc | apply pw_below_drewN | apply below_drew1) | exact HB.out)))); have n1_ := Aside0.mk (below_step (by repeat (first | (with_reducible first | exact HB.out | apply below_alloc | apply pw_below_drewN | apply below_drew1) | exact HB.out)) hb); clear HB; have HO116 := n0_; have HB := n1_; clear n0_ n1_; (try clear hb); (try clear hb2); (try clear hk); (try clear hi); (try clear ho0); obtain ⟨Ao9, co9, eo9⟩ := Kd.V_slice HO116.out; subst eo9) | ((with_reducible refine gate_callee (f := 11) rfl ?_); refine goesL_ (some 4) rfl rfl Tryz.func11 (by kernel_rfl) rfl #[.int .i64 32, .int .i64 4096, .slice Ao9 t114.length co9] rfl (by (try simp only [List.map_toArray, List.map_cons, List.map_nil]); first | done | rfl | (simp only [List.length_drop, List.length_take]; rfl)) ?_; (with_reducible refine (impl_Feed.calls 32 4096 _ _ t114 t117 _ ?side1 ?side2 A3.out).mono ?_); (case side1 => repeat (first | exact (Kd.V_reads' HO116.out).2.2 | (with_reducible refine Kd.C_alloc ?_ _) | (with_reducible refine Kd.C_drewN ?_ _) | (with_reducible refine Kd.C_drew ?_))); (case side2 => exact (Kd.V_reads' HO116.out).2.1); rintro e w10 ⟨v118, rfl, ho0, hb⟩; refine ⟨_, rfl, ?_⟩; have n0_ := Aside0.mk (Kd.V_elder' (by (with_reducible repeat (first | apply Kd.V_alloc | apply Kd.V_drewN | apply Kd.V_drew)); exact HO116.out) (Kd.S_base ho0) hb); have n1_ := Aside0.mk (Kd.S_lower ho0 (below_size (by repeat (first | (with_reducible first | exact HB.out | apply below_alloc | apply pw_below_drewN | apply below_drew1) | exact HB.out)))); have n2_ := Aside0.mk (below_step (by repeat (first | (with_reducible first | exact HB.out | apply below_alloc | apply pw_below_drewN | apply below_drew1) | exact HB.out)) hb); clear HO116; clear HB; have HO116 := n0_; have HO119 := n1_; have HB := n2_; clear n0_ n1_ n2_; (try clear hb); (try clear hb2); (try clear hk); (try clear hi); (try clear ho0); obtain ⟨Ao11, co11, eo11⟩ := Kd.S_slice HO119.out; subst eo11; have p120 : 0 ≤ (0 : Int) := (by omega); have q120 : 0 < (t117.length : Int) := of_decide_eq_true (by first | (with_reducible assumption) | assumption); obtain ⟨ad120, A120_4, c120_4, A120_5, c120_5, e120, hx120_0, hx120_1, hx120_2, hx120_3, hx120_4, hx120_5, hl120_4, hi120_4, hl120_5, hi120_5⟩ := at_T55 (Kd.S_reads' HO119.out).2.2 0 p120 q120; cases e120; obtain ⟨ce120, hce120, hMe120, hcc120⟩ := Kd.S_get HO119.out z55 0 p120 (by first | exact q120 | exact of_decide_eq_true (by first | (with_reducible assumption) | assumption) | (have e_ := (Kd.S_reads' HO119.out).1; omega)); obtain ⟨ve120_4, ve120_5, rfl, ge120_4, ge120_5⟩ := k55_openM hMe120; have hv120_4 := hcc120 4 _ rfl; rw [add_field _ _ 4 (by omega)] at hv120_4; replace hv120_4 := Option.some.inj (hv120_4.symm.trans hx120_4); rw [hv120_4] at ge120_4; have HL120_4 := Aside0.mk (show Kd.R (Kd.int .i64) 2 _ _ _ _ ((rd_T55 t117 0).f4) from ge120_4); clear hv120_4 ge120_4; have hv120_5 := hcc120 5 _ rfl; rw [add_field _ _ 5 (by omega)] at hv120_5; replace hv120_5 := Option.some.inj (hv120_5.symm.trans hx120_5); rw [hv120_5] at ge120_5; have HL120_5 := Aside0.mk (show Kd.R (Kd.int .u8) 5 _ _ _ _ ((rd_T55 t117 0).f5) from ge120_5); clear hv120_5 ge120_5; clear hcc120 hce120; have qi120 : (0 < t117.length) = True := eq_true (by omega); (try rw [show ((0 : Int)).toNat = 0 from rfl] at hx120_0); (try rw [show 0 * 6 = 0 from rfl] at hx120_0); (try rw [Addr.add_zero'] at hx120_0); (try rw [show ((0 : Int)).toNat = 0 from rfl] at hx120_1); (try rw [show 0 * 6 = 0 from rfl] at hx120_1); (try rw [Addr.add_zero'] at hx120_1); (try rw [show ((0 : Int)).toNat = 0 from rfl] at hx120_2); (try rw [show 0 * 6 = 0 from rfl] at hx120_2); (try rw [Addr.add_zero'] at hx120_2); (try rw [show ((0 : Int)).toNat = 0 from rfl] at hx120_3); (try rw [show 0 * 6 = 0 from rfl] at hx120_3); (try rw [Addr.add_zero'] at hx120_3); (try rw [show ((0 : Int)).toNat = 0 from rfl] at hx120_4); (try rw [show 0 * 6 = 0 from rfl] at hx120_4); (try rw [Addr.add_zero'] at hx120_4); (try rw [show ((0 : Int)).toNat = 0 from rfl] at hx120_5); (try rw [show 0 * 6 = 0 from rfl] at hx120_5); (try rw [Addr.add_zero'] at hx120_5); have HR120_4 := Aside0.mk hi120_4; have HC120_4 := Aside0.mk hl120_4; clear hi120_4 hl120_4; have HR120_5 := Aside0.mk hi120_5; have HC120_5 := Aside0.mk hl120_5; clear hi120_5 hl120_5; replace p120 := eq_true p120; replace q120 := eq_true q120; have p121 : 0 ≤ (0 : Int) := (by omega); have q121 : 0 < (t117.length : Int) := of_decide_eq_true (by first | (with_reducible assumption) | assumption); obtain ⟨ad121, A121_4, c121_4, A121_5, c121_5, e121, hx121_0, hx121_1, hx121_2, hx121_3, hx121_4, hx121_5, hl121_4, hi121_4, hl121_5, hi121_5⟩ := at_T55 (Kd.S_reads' HO119.out).2.2 0 p121 q121; obtain rfl : ad120 = ad121 := (by injection e121); obtain ⟨ce121, hce121, hMe121, hcc121⟩ := Kd.S_get HO119.out z55 0 p121 (by first | exact q121 | exact of_decide_eq_true (by first | (with_reducible assumption) | assumption) | (have e_ := (Kd.S_reads' HO119.out).1; omega)); obtain ⟨ve121_4, ve121_5, rfl, ge121_4, ge121_5⟩ := k55_openM hMe121; have hv121_4 := hcc121 4 _ rfl; rw [add_field _ _ 4 (by omega)] at hv121_4; replace hv121_4 := Option.some.inj (hv121_4.symm.trans hx121_4); rw [hv121_4] at ge121_4; have HL121_4 := Aside0.mk (show Kd.R (Kd.int .i64) 2 _ _ _ _ ((rd_T55 t117 0).f4) from ge121_4); clear hv121_4 ge121_4; have hv121_5 := hcc121 5 _ rfl; rw [add_field _ _ 5 (by omega)] at hv121_5; replace hv121_5 := Option.some.inj (hv121_5.symm.trans hx121_5); rw [hv121_5] at ge121_5; have HL121_5 := Aside0.mk (show Kd.R (Kd.int .u8) 5 _ _ _ _ ((rd_T55 t117 0).f5) from ge121_5); clear hv121_5 ge121_5; clear hcc121 hce121; have qi121 : (0 < t117.length) = True := eq_true (by omega); (try rw [show ((0 : Int)).toNat = 0 from rfl] at hx121_0); (try rw [show 0 * 6 = 0 from rfl] at hx121_0); (try rw [Addr.add_zero'] at hx121_0); (try rw [show ((0 : Int)).toNat = 0 from rfl] at hx121_1); (try rw [show 0 * 6 = 0 from rfl] at hx121_1); (try rw [Addr.add_zero'] at hx121_1); (try rw [show ((0 : Int)).toNat = 0 from rfl] at hx121_2); (try rw [show 0 * 6 = 0 from rfl] at hx121_2); (try rw [Addr.add_zero'] at hx121_2); (try rw [show ((0 : Int)).toNat = 0 from rfl] at hx121_3); (try rw [show 0 * 6 = 0 from rfl] at hx121_3); (try rw [Addr.add_zero'] at hx121_3); (try rw [show ((0 : Int)).toNat = 0 from rfl] at hx121_4); (try rw [show 0 * 6 = 0 from rfl] at hx121_4); (try rw [Addr.add_zero'] at hx121_4); (try rw [show ((0 : Int)).toNat = 0 from rfl] at hx121_5); (try rw [show 0 * 6 = 0 from rfl] at hx121_5); (try rw [Addr.add_zero'] at hx121_5); have HR121_4 := Aside0.mk hi121_4; have HC121_4 := Aside0.mk hl121_4; clear hi121_4 hl121_4; have HR121_5 := Aside0.mk hi121_5; have HC121_5 := Aside0.mk hl121_5; clear hi121_5 hl121_5; replace p121 := eq_true p121; replace q121 := eq_true q121; have ea_ := Option.some.inj (hx120_4.symm.trans hx121_4); injection ea_ with ea_ en_ ec_; subst ea_; subst ec_; clear en_; have ea_ := Option.some.inj (hx120_5.symm.trans hx121_5); injection ea_ with ea_ en_ ec_; subst ea_; subst ec_; clear en_))
        go_ret
        exact ⟨by first | rfl | (simp [errW_none, errW_some] <;> rfl) | (simp [*, errW_none, errW_some] <;> rfl), by repeat (first | (with_reducible first | exact HB.out | apply below_alloc | apply pw_below_drewN | apply below_drew1) | exact HB.out)⟩
      · rw [if_neg c6] at H
        have c6b0 : (((rd_T55 t117 0).f0) == 2) = false := beq_eq_false_iff_ne.mpr c6
        have c6b1 : (((rd_T55 t117 0).f0) != 2) = true := bne_iff_ne.mpr c6
        obtain rfl := Option.some.inj H
        go_enter Tryz.func8, Tryz.ntmps8
        go_wp2_with (first | ((with_reducible refine gate_callee (f := 29) rfl ?_); refine goesL_ (some 2) rfl rfl Tryz.func29 (by kernel_rfl) rfl #[.int .i64 0, .int .i64 3] rfl (by (try simp only [List.map_toArray, List.map_cons, List.map_nil]); first | done | rfl | (simp only [List.length_drop, List.length_take]; rfl)) ?_; (with_reducible refine (impl_MakeNumber.calls 0 3 t113 _ ?side1 A1.out).mono ?_); (case side1 => exact XTab.below HT.out (by repeat (first | (with_reducible first | exact HB.out | apply below_alloc | apply pw_below_drewN | apply below_drew1) | exact HB.out))); rintro e w12 ⟨rfl, hb⟩; refine ⟨_, rfl, ?_⟩; have n0_ := Aside0.mk (below_step (by repeat (first | (with_reducible first | exact HB.out | apply below_alloc | apply pw_below_drewN | apply below_drew1) | exact HB.out)) hb); clear HB; have HB := n0_; clear n0_; (try clear hb); (try clear hb2); (try clear hk); (try clear hi)) | ((with_reducible refine gate_dst (N := 3) rfl ?_); refine conv_ev 9 32 5 rfl rfl Tryz.underlying9 Tryz.underlying32 Tryz.underlying5 t113 rfl A2.out ?_; rintro e w13 ⟨v115, rfl, ho0, hb⟩; refine ⟨_, rfl, ?_⟩; have n0_ := Aside0.mk (Kd.V_lower (Kd.V_mono (ok' := fun k_ => True) ho0 (fun k_ hk_ => trivial)) (below_size (by repeat (first | (with_reducible first | exact HB.out | apply below_alloc | apply pw_below_drewN | apply below_drew1) | exact HB.out)))); have n1_ := Aside0.mk (below_step (by repeat (first | (with_reducible first | exact HB.out | apply below_alloc | apply pw_below_drewN | apply below_drew1) | exact HB.out)) hb); clear HB; have HO116 := n0_; have HB := n1_; clear n0_ n1_; (try clear hb); (try clear hb2); (try clear hk); (try clear hi); (try clear ho0); obtain ⟨Ao14, co14, eo14⟩ := Kd.V_slice HO116.out; subst eo14) | ((with_reducible refine gate_callee (f := 11) rfl ?_); refine goesL_ (some 4) rfl rfl Tryz.func11 (by kernel_rfl) rfl #[.int .i64 32, .int .i64 4096, .slice Ao14 t114.length co14] rfl (by (try simp only [List.map_toArray, List.map_cons, List.map_nil]); first | done | rfl | (simp only [List.length_drop, List.length_take]; rfl)) ?_; (with_reducible refine (impl_Feed.calls 32 4096 _ _ t114 t117 _ ?side1 ?side2 A3.out).mono ?_); (case side1 => repeat (first | exact (Kd.V_reads' HO116.out).2.2 | (with_reducible refine Kd.C_alloc ?_ _) | (with_reducible refine Kd.C_drewN ?_ _) | (with_reducible refine Kd.C_drew ?_))); (case side2 => exact (Kd.V_reads' HO116.out).2.1); rintro e w15 ⟨v118, rfl, ho0, hb⟩; refine ⟨_, rfl, ?_⟩; have n0_ := Aside0.mk (Kd.V_elder' (by (with_reducible repeat (first | apply Kd.V_alloc | apply Kd.V_drewN | apply Kd.V_drew)); exact HO116.out) (Kd.S_base ho0) hb); have n1_ := Aside0.mk (Kd.S_lower ho0 (below_size (by repeat (first | (with_reducible first | exact HB.out | apply below_alloc | apply pw_below_drewN | apply below_drew1) | exact HB.out)))); have n2_ := Aside0.mk (below_step (by repeat (first | (with_reducible first | exact HB.out | apply below_alloc | apply pw_below_drewN | apply below_drew1) | exact HB.out)) hb); clear HO116; clear HB; have HO116 := n0_; have HO119 := n1_; have HB := n2_; clear n0_ n1_ n2_; (try clear hb); (try clear hb2); (try clear hk); (try clear hi); (try clear ho0); obtain ⟨Ao16, co16, eo16⟩ := Kd.S_slice HO119.out; subst eo16; have p120 : 0 ≤ (0 : Int) := (by omega); have q120 : 0 < (t117.length : Int) := of_decide_eq_true (by first | (with_reducible assumption) | assumption); obtain ⟨ad120, A120_4, c120_4, A120_5, c120_5, e120, hx120_0, hx120_1, hx120_2, hx120_3, hx120_4, hx120_5, hl120_4, hi120_4, hl120_5, hi120_5⟩ := at_T55 (Kd.S_reads' HO119.out).2.2 0 p120 q120; cases e120; obtain ⟨ce120, hce120, hMe120, hcc120⟩ := Kd.S_get HO119.out z55 0 p120 (by first | exact q120 | exact of_decide_eq_true (by first | (with_reducible assumption) | assumption) | (have e_ := (Kd.S_reads' HO119.out).1; omega)); obtain ⟨ve120_4, ve120_5, rfl, ge120_4, ge120_5⟩ := k55_openM hMe120; have hv120_4 := hcc120 4 _ rfl; rw [add_field _ _ 4 (by omega)] at hv120_4; replace hv120_4 := Option.some.inj (hv120_4.symm.trans hx120_4); rw [hv120_4] at ge120_4; have HL120_4 := Aside0.mk (show Kd.R (Kd.int .i64) 2 _ _ _ _ ((rd_T55 t117 0).f4) from ge120_4); clear hv120_4 ge120_4; have hv120_5 := hcc120 5 _ rfl; rw [add_field _ _ 5 (by omega)] at hv120_5; replace hv120_5 := Option.some.inj (hv120_5.symm.trans hx120_5); rw [hv120_5] at ge120_5; have HL120_5 := Aside0.mk (show Kd.R (Kd.int .u8) 5 _ _ _ _ ((rd_T55 t117 0).f5) from ge120_5); clear hv120_5 ge120_5; clear hcc120 hce120; have qi120 : (0 < t117.length) = True := eq_true (by omega); (try rw [show ((0 : Int)).toNat = 0 from rfl] at hx120_0); (try rw [show 0 * 6 = 0 from rfl] at hx120_0); (try rw [Addr.add_zero'] at hx120_0); (try rw [show ((0 : Int)).toNat = 0 from rfl] at hx120_1); (try rw [show 0 * 6 = 0 from rfl] at hx120_1); (try rw [Addr.add_zero'] at hx120_1); (try rw [show ((0 : Int)).toNat = 0 from rfl] at hx120_2); (try rw [show 0 * 6 = 0 from rfl] at hx120_2); (try rw [Addr.add_zero'] at hx120_2); (try rw [show ((0 : Int)).toNat = 0 from rfl] at hx120_3); (try rw [show 0 * 6 = 0 from rfl] at hx120_3); (try rw [Addr.add_zero'] at hx120_3); (try rw [show ((0 : Int)).toNat = 0 from rfl] at hx120_4); (try rw [show 0 * 6 = 0 from rfl] at hx120_4); (try rw [Addr.add_zero'] at hx120_4); (try rw [show ((0 : Int)).toNat = 0 from rfl] at hx120_5); (try rw [show 0 * 6 = 0 from rfl] at hx120_5); (try rw [Addr.add_zero'] at hx120_5); have HR120_4 := Aside0.mk hi120_4; have HC120_4 := Aside0.mk hl120_4; clear hi120_4 hl120_4; have HR120_5 := Aside0.mk hi120_5; have HC120_5 := Aside0.mk hl120_5; clear hi120_5 hl120_5; replace p120 := eq_true p120; replace q120 := eq_true q120))
        go_ret
        exact ⟨by first | rfl | (simp [errW_none, errW_some] <;> rfl) | (simp [*, errW_none, errW_some] <;> rfl), by repeat (first | (with_reducible first | exact HB.out | apply below_alloc | apply pw_below_drewN | apply below_drew1) | exact HB.out)⟩
    · rw [if_neg c5] at H
      exact absurd H (by simp)
  · rw [if_neg c4] at H
    have c4b0 : ((t117.length : Int) == 1) = false := beq_eq_false_iff_ne.mpr c4
    have c4b1 : ((t117.length : Int) != 1) = true := bne_iff_ne.mpr c4
    obtain rfl := Option.some.inj H
    go_enter Tryz.func8, Tryz.ntmps8
    go_wp2_with (first | ((with_reducible refine gate_callee (f := 29) rfl ?_); refine goesL_ (some 2) rfl rfl Tryz.func29 (by kernel_rfl) rfl #[.int .i64 0, .int .i64 3] rfl (by (try simp only [List.map_toArray, List.map_cons, List.map_nil]); first | done | rfl | (simp only [List.length_drop, List.length_take]; rfl)) ?_; (with_reducible refine (impl_MakeNumber.calls 0 3 t113 _ ?side1 A1.out).mono ?_); (case side1 => exact XTab.below HT.out (by repeat (first | (with_reducible first | exact HB.out | apply below_alloc | apply pw_below_drewN | apply below_drew1) | exact HB.out))); rintro e w17 ⟨rfl, hb⟩; refine ⟨_, rfl, ?_⟩; have n0_ := Aside0.mk (below_step (by repeat (first | (with_reducible first | exact HB.out | apply below_alloc | apply pw_below_drewN | apply below_drew1) | exact HB.out)) hb); clear HB; have HB := n0_; clear n0_; (try clear hb); (try clear hb2); (try clear hk); (try clear hi)) | ((with_reducible refine gate_dst (N := 3) rfl ?_); refine conv_ev 9 32 5 rfl rfl Tryz.underlying9 Tryz.underlying32 Tryz.underlying5 t113 rfl A2.out ?_; rintro e w18 ⟨v115, rfl, ho0, hb⟩; refine ⟨_, rfl, ?_⟩; have n0_ := Aside0.mk (Kd.V_lower (Kd.V_mono (ok' := fun k_ => True) ho0 (fun k_ hk_ => trivial)) (below_size (by repeat (first | (with_reducible first | exact HB.out | apply below_alloc | apply pw_below_drewN | apply below_drew1) | exact HB.out)))); have n1_ := Aside0.mk (below_step (by repeat (first | (with_reducible first | exact HB.out | apply below_alloc | apply pw_below_drewN | apply below_drew1) | exact HB.out)) hb); clear HB; have HO116 := n0_; have HB := n1_; clear n0_ n1_; (try clear hb); (try clear hb2); (try clear hk); (try clear hi); (try clear ho0); obtain ⟨Ao19, co19, eo19⟩ := Kd.V_slice HO116.out; subst eo19) | ((with_reducible refine gate_callee (f := 11) rfl ?_); refine goesL_ (some 4) rfl rfl Tryz.func11 (by kernel_rfl) rfl #[.int .i64 32, .int .i64 4096, .slice Ao19 t114.length co19] rfl (by (try simp only [List.map_toArray, List.map_cons, List.map_nil]); first | done | rfl | (simp only [List.length_drop, List.length_take]; rfl)) ?_; (with_reducible refine (impl_Feed.calls 32 4096 _ _ t114 t117 _ ?side1 ?side2 A3.out).mono ?_); (case side1 => repeat (first | exact (Kd.V_reads' HO116.out).2.2 | (with_reducible refine Kd.C_alloc ?_ _) | (with_reducible refine Kd.C_drewN ?_ _) | (with_reducible refine Kd.C_drew ?_))); (case side2 => exact (Kd.V_reads' HO116.out).2.1); rintro e w20 ⟨v118, rfl, ho0, hb⟩; refine ⟨_, rfl, ?_⟩; have n0_ := Aside0.mk (Kd.V_elder' (by (with_reducible repeat (first | apply Kd.V_alloc | apply Kd.V_drewN | apply Kd.V_drew)); exact HO116.out) (Kd.S_base ho0) hb); have n1_ := Aside0.mk (Kd.S_lower ho0 (below_size (by repeat (first | (with_reducible first | exact HB.out | apply below_alloc | apply pw_below_drewN | apply below_drew1) | exact HB.out)))); have n2_ := Aside0.mk (below_step (by repeat (first | (with_reducible first | exact HB.out | apply below_alloc | apply pw_below_drewN | apply below_drew1) | exact HB.out)) hb); clear HO116; clear HB; have HO116 := n0_; have HO119 := n1_; have HB := n2_; clear n0_ n1_ n2_; (try clear hb); (try clear hb2); (try clear hk); (try clear hi); (try clear ho0); obtain ⟨Ao21, co21, eo21⟩ := Kd.S_slice HO119.out; subst eo21))
    go_ret
    exact ⟨by first | rfl | (simp [errW_none, errW_some] <;> rfl) | (simp [*, errW_none, errW_some] <;> rfl), by repeat (first | (with_reducible first | exact HB.out | apply below_alloc | apply pw_below_drewN | apply below_drew1) | exact HB.out)⟩
end Go.Proofs.YtjkjnhcnmjknmaaGreatDoor.Y
end
section
namespace Go.Proofs.YtjkjnhcnmjknmaaGreatDoor.Y
open Go.RowKit Go.Proofs.YtjkjnhcnmjknmaaGreatDoorW.PrintWords Go.Proofs.YtjkjnhcnmjknmaaGreatDoorW.PrintLast Go.Proofs.YtjkjnhcnmjknmaaGreatDoorW.PrintMore
attribute [local go_sem] max2_int min2_int max_two min_two max_three min_three max_four min_four   -- for this text's walks alone
set_option linter.unusedVariables false
set_option linter.unusedSimpArgs false
set_option maxHeartbeats 8000000 in
set_option maxRecDepth 100000 in
theorem laws_drawEvents.calls (k : Nat) (P0_ : Nat → Prop) (A0 : Option Addr) (c0 : Nat) (l0 : List (S55)) (r : List (S65)) (w : World) (hs0 : Kd.V k55 55 w w.heap.size (fun k_ => P0_ k_) (.slice A0 l0.length c0) l0) (h : laws_drawEvents.f k l0 = some r) :
    Calls Tryz.prog 10 #[.slice A0 l0.length c0] w fun e w' => ∃ v0_ : Value, e = .returned (v0_) ∧ Kd.N k65 65 w' w.heap.size (fun k_ => (P0_ k_ ∨ w.heap.size ≤ k_)) v0_ r ∧ Below w.heap.size w w' := by
  have hu55 := Tryz.underlying55
  have HO0 := Aside0.mk (show Kd.V k55 55 w w.heap.size (fun k_ => (P0_ k_ ∨ w.heap.size ≤ k_)) (.slice A0 l0.length c0) l0 from Kd.V_mono hs0 (fun k_ hk => .inl hk))
  have HB := Aside0.mk (Below.refl w.heap.size w)
  have H : (laws_drawEvents.l0 k ([] : List (S65)) l0 (l0.length : Int) 0) = some r := h
  clear h
  have H' := Aside0.mk H
  clear H
  go_enter Tryz.func10, Tryz.ntmps10
  go_wp2
  go_loopg [3, 8] k (fun kq v3 v8 w' => ∃ (x3_1 : List (S65)) (x8_1 : Int), v8 = .int .i64 x8_1 ∧ Aside0 (laws_drawEvents.l0 kq x3_1 l0 (l0.length : Int) x8_1 = some r) ∧ Aside0 (kq ≤ k) ∧ Aside0 (Kd.N k65 65 w' w.heap.size (fun k_ => (P0_ k_ ∨ w.heap.size ≤ k_)) v3 x3_1) ∧ Aside0 (Kd.V k55 55 w' w.heap.size (fun k_ => (P0_ k_ ∨ w.heap.size ≤ k_) ∧ some k_ ≠ (v3 : Value).ownBlock) (.slice A0 l0.length c0) l0) ∧ Aside0 (Below w.heap.size w w'))
  case atStart => exact ⟨(([] : List (S65))), (0), (by first | rfl | (simp; done) | (simp [*]; done)), H', ⟨Nat.le_refl _⟩, ⟨by first | exact Kd.S_nil _ _ _ _ _ | exact Kd.N_nil _ _ _ _ _ | exact Kd.V_nil _ _ _ _ _ | exact Kd.Q_nil _ _ _ _ _ | exact Kd.R_nil _ _ _ _ _⟩, ⟨by (with_reducible repeat (first | apply Kd.V_alloc | apply Kd.V_drewN | apply Kd.V_drew)); exact Kd.V_mono HO0.out (fun _ hk => ⟨hk, (by simp [Value.ownBlock])⟩)⟩, ⟨by repeat (first | (with_reducible first | exact HB.out | apply below_alloc | apply pw_below_drewN | apply below_drew1) | exact HB.out)⟩⟩
  case round =>
    clear H'
    try clear c1
    obtain ⟨x3_1, x8_1, rfl, HA, HK1, HO_3, HO_6, HB⟩ := hrel
    cases gk with
    | zero => exact absurd HA.out (by simp [laws_drawEvents.l0])
    | succ k1 =>
      have H := HA.out
      clear HA
      simp only [laws_drawEvents.l0] at H
      by_cases c2 : x8_1 < (l0.length : Int)
      · rw [if_pos c2] at H
        have c2b0 : decide (x8_1 < (l0.length : Int)) = true := decide_eq_true c2
        clear c2
        by_cases c3 : 0 ≤ x8_1
        · rw [if_pos c3] at H
          have c3b0 : decide (0 ≤ x8_1) = true := decide_eq_true c3
          clear c3
          by_cases c4 : x8_1 < (l0.length : Int)
          · rw [if_pos c4] at H
            have c4b0 : decide (x8_1 < (l0.length : Int)) = true := decide_eq_true c4
            clear c4
            by_cases c5 : x3_1.length < 1759218604441
            · rw [if_pos c5] at H
              have LMc5 := Aside0.mk c5
              clear c5
              obtain ⟨y124, hy124⟩ : ∃ y_ : List (S65), y_ = (x3_1 ++ [(⟨(rd_T55 l0 x8_1).f0, (rd_T55 l0 x8_1).f1, (rd_T55 l0 x8_1).f2, (rd_T55 l0 x8_1).f3, (rd_T55 l0 x8_1).f4, (rd_T55 l0 x8_1).f5⟩ : S65)]) := ⟨_, rfl⟩
              replace H : (laws_drawEvents.l0 k1 y124 l0 (l0.length : Int) (wrap64 (x8_1 + 1))) = some r := by first | (rw [hy124]; with_reducible exact H) | (have H2_ := (Option.bind_some _ _).symm.trans H; rw [hy124]; with_reducible exact H2_) | (have H2_ := (Option.bind_some _ _).symm.trans H; with_reducible exact H2_) | with_reducible exact H | (rw [hy124]; exact H) | exact H
              have Ny124 := Aside0.mk hy124
              clear hy124
              have H' := Aside0.mk H
              clear H
              have p122 : 0 ≤ (x8_1 : Int) := of_decide_eq_true (by first | (with_reducible assumption) | assumption)
              have q122 : x8_1 < (l0.length : Int) := of_decide_eq_true (by first | (with_reducible assumption) | assumption)
              obtain ⟨ad122, A122_4, c122_4, A122_5, c122_5, e122, hx122_0, hx122_1, hx122_2, hx122_3, hx122_4, hx122_5, hl122_4, hi122_4, hl122_5, hi122_5⟩ := at_T55 (Kd.V_reads' HO_6.out).2.2 x8_1 p122 q122
              cases e122
              obtain ⟨ce122, hce122, hMe122, hcc122⟩ := Kd.V_get HO_6.out z55 x8_1 p122 (by first | exact q122 | exact of_decide_eq_true (by first | (with_reducible assumption) | assumption) | (have e_ := (Kd.V_reads' HO_6.out).1; omega))
              obtain ⟨ua122_4, uc122_4, ua122_5, uc122_5, rfl, ul122_4, ge122_4, ul122_5, ge122_5⟩ := k55_openF hMe122
              have hv122_4 := hcc122 4 _ rfl
              rw [add_field _ _ 4 (by omega)] at hv122_4
              replace hv122_4 := Option.some.inj (hv122_4.symm.trans hx122_4)
              injection hv122_4 with hva_ hvn_ hvc_
              rw [hva_] at ge122_4
              rw [hvc_] at ul122_4
              have HL122_4 := Aside0.mk (show Kd.V (Kd.int .i64) 2 _ w.heap.size _ _ ((rd_T55 l0 x8_1).f4) from Kd.V_mk ul122_4 ge122_4)
              clear hva_ hvn_ hvc_ ge122_4 ul122_4
              have hv122_5 := hcc122 5 _ rfl
              rw [add_field _ _ 5 (by omega)] at hv122_5
              replace hv122_5 := Option.some.inj (hv122_5.symm.trans hx122_5)
              injection hv122_5 with hva_ hvn_ hvc_
              rw [hva_] at ge122_5
              rw [hvc_] at ul122_5
              have HL122_5 := Aside0.mk (show Kd.V (Kd.int .u8) 5 _ w.heap.size _ _ ((rd_T55 l0 x8_1).f5) from Kd.V_mk ul122_5 ge122_5)
              clear hva_ hvn_ hvc_ ge122_5 ul122_5
              clear hcc122 hce122
              have HR122_4 := Aside0.mk hi122_4
              have HC122_4 := Aside0.mk hl122_4
              clear hi122_4 hl122_4
              have HR122_5 := Aside0.mk hi122_5
              have HC122_5 := Aside0.mk hl122_5
              clear hi122_5 hl122_5
              replace p122 := eq_true p122
              replace q122 := eq_true q122
              go_wp2_with (first | ((with_reducible refine gate_dst (N := 5) rfl ?_); refine box_event ?hg (N := 5) ?hd (cs := #[.int .i64 0, .int .i64 0, .int .u8 0, .int .i64 0, .slice none 0 0, .slice none 0 0]) (t := 55) ?hr ?_; (case hd => rfl); (case hg => rfl); (case hr => first | (go_simp; done) | (go_simp; rfl)); intro gb123 hg w6 hbox hb; have n0_ := Aside0.mk (Kd.N_below (Kd.N_elderB (by (with_reducible repeat (first | apply Kd.N_alloc | apply Kd.N_drewN | apply Kd.N_drew)); exact HO_3.out) gb123 (Nat.le_of_eq hg.symm)) hb); have n1_ := Aside0.mk (Kd.V_below (Kd.V_elderB (by (with_reducible repeat (first | apply Kd.V_alloc | apply Kd.V_drewN | apply Kd.V_drew)); exact HO_6.out) gb123 (Nat.le_of_eq hg.symm)) hb); have n2_ := Aside0.mk (Kd.V_below (Kd.V_elderB (by (with_reducible repeat (first | apply Kd.V_alloc | apply Kd.V_drewN | apply Kd.V_drew)); exact HL122_4.out) gb123 (Nat.le_of_eq hg.symm)) hb); have n3_ := Aside0.mk (Kd.V_below (Kd.V_elderB (by (with_reducible repeat (first | apply Kd.V_alloc | apply Kd.V_drewN | apply Kd.V_drew)); exact HL122_5.out) gb123 (Nat.le_of_eq hg.symm)) hb); have n4_ := Aside0.mk (Kd.C_below (by repeat (first | (with_reducible exact HR122_4.out) | (with_reducible refine Kd.C_alloc ?_ _) | (with_reducible refine Kd.C_drewN ?_ _) | (with_reducible refine Kd.C_drew ?_) | exact HR122_4.out)) hb); have n5_ := Aside0.mk (Kd.C_below (by repeat (first | (with_reducible exact HR122_5.out) | (with_reducible refine Kd.C_alloc ?_ _) | (with_reducible refine Kd.C_drewN ?_ _) | (with_reducible refine Kd.C_drew ?_) | exact HR122_5.out)) hb); have n6_ := Aside0.mk (below_step (by repeat (first | (with_reducible first | exact HB.out | apply below_alloc | apply pw_below_drewN | apply below_drew1) | exact HB.out)) hb); have n7_ := Aside0.mk (hbox); have n8_ := Aside0.mk ((by rw [hg]; exact (below_size (by repeat (first | (with_reducible first | exact HB.out | apply below_alloc | apply pw_below_drewN | apply below_drew1) | exact HB.out))) : w.heap.size ≤ gb123)); have n9_ := Aside0.mk ((by rw [hg]; exact (below_size (by repeat (first | (with_reducible first | exact HB.out | apply below_alloc | apply pw_below_drewN | apply below_drew1) | exact HB.out))) : w.heap.size ≤ gb123)); clear HO_3; clear HO_6; clear HL122_4; clear HL122_5; clear HR122_4; clear HR122_5; clear HB; have HO_3 := n0_; have HO_6 := n1_; have HL122_4 := n2_; have HL122_5 := n3_; have HR122_4 := n4_; have HR122_5 := n5_; have HB := n6_; have BK123 := n7_; have GW123 := n8_; have GE123 := n9_; clear n0_ n1_ n2_ n3_ n4_ n5_ n6_ n7_ n8_ n9_; clear hb hbox hg; have hcz7_0 : w6.cell? ⟨gb123, 0, none⟩ = some (.int .i64 0) := (blk_cell BK123.out 0).trans rfl; have hcz7_1 : w6.cell? ⟨gb123, 1, none⟩ = some (.int .i64 0) := (blk_cell BK123.out 1).trans rfl; have hcz7_2 : w6.cell? ⟨gb123, 2, none⟩ = some (.int .u8 0) := (blk_cell BK123.out 2).trans rfl; have hcz7_3 : w6.cell? ⟨gb123, 3, none⟩ = some (.int .i64 0) := (blk_cell BK123.out 3).trans rfl; have hcz7_4 : w6.cell? ⟨gb123, 4, none⟩ = some (.slice none 0 0) := (blk_cell BK123.out 4).trans rfl; have hcz7_5 : w6.cell? ⟨gb123, 5, none⟩ = some (.slice none 0 0) := (blk_cell BK123.out 5).trans rfl; have hfz7_0 := blk_frozen BK123.out 0; have hfz7_1 := blk_frozen BK123.out 1; have hfz7_2 := blk_frozen BK123.out 2; have hfz7_3 := blk_frozen BK123.out 3; have hfz7_4 := blk_frozen BK123.out 4; have hfz7_5 := blk_frozen BK123.out 5) | ((with_reducible refine gate_store (t := 55) (p := 5) rfl ?_); refine store_event (t := 55) (p := 5) (v := ?vo_w8) (w1 := ((((((w6.setCell ⟨gb123, 0, none⟩ (.int .i64 ((rd_T55 l0 x8_1).f0))).setCell ⟨gb123, 1, none⟩ (.int .i64 ((rd_T55 l0 x8_1).f1))).setCell ⟨gb123, 2, none⟩ (.int .u8 ((rd_T55 l0 x8_1).f2))).setCell ⟨gb123, 3, none⟩ (.int .i64 ((rd_T55 l0 x8_1).f3))).setCell ⟨gb123, 4, none⟩ (.slice A122_4 ((rd_T55 l0 x8_1).f4).length c122_4)).setCell ⟨gb123, 5, none⟩ (.slice A122_5 ((rd_T55 l0 x8_1).f5).length c122_5))) ?hg ?ho ?hn ?hr ?_; (case ho => rfl); (case hg => rfl); (case hn => rfl); (case hr => first | (go_simp; done) | (go_simp; rfl)); intro w8 hw; have n0_ : Aside0 (Kd.N k65 65 w8 w.heap.size (fun k_ => (P0_ k_ ∨ w.heap.size ≤ k_) ∧ k_ ≠ gb123) u3 x3_1) := ⟨(by rw [hw]; exact (by (with_reducible repeat (first | apply Kd.N_alloc | apply Kd.N_drewN | apply Kd.N_drew)); exact Kd.N_mono (Kd.N_far (p := ⟨gb123, 5, none⟩) (Kd.N_far (p := ⟨gb123, 4, none⟩) (Kd.N_far (p := ⟨gb123, 3, none⟩) (Kd.N_far (p := ⟨gb123, 2, none⟩) (Kd.N_far (p := ⟨gb123, 1, none⟩) (Kd.N_far (p := ⟨gb123, 0, none⟩) (Kd.N_mono HO_3.out (fun k_ hk => (⟨hk, hk.2⟩ : _ ∧ k_ ≠ gb123))) (fun _ hk => hk.2) (.int .i64 ((rd_T55 l0 x8_1).f0))) (fun _ hk => hk.2) (.int .i64 ((rd_T55 l0 x8_1).f1))) (fun _ hk => hk.2) (.int .u8 ((rd_T55 l0 x8_1).f2))) (fun _ hk => hk.2) (.int .i64 ((rd_T55 l0 x8_1).f3))) (fun _ hk => hk.2) (.slice A122_4 ((rd_T55 l0 x8_1).f4).length c122_4)) (fun _ hk => hk.2) (.slice A122_5 ((rd_T55 l0 x8_1).f5).length c122_5)) (fun _ hk => ⟨hk.1.1, hk.1.2⟩)))⟩; have n1_ : Aside0 (Kd.V k55 55 w8 w.heap.size (fun k_ => (P0_ k_ ∨ w.heap.size ≤ k_) ∧ some k_ ≠ (u3 : Value).ownBlock ∧ k_ ≠ gb123) (.slice (some ad122) l0.length c0) l0) := ⟨(by rw [hw]; exact (by (with_reducible repeat (first | apply Kd.V_alloc | apply Kd.V_drewN | apply Kd.V_drew)); exact Kd.V_mono (Kd.V_far (p := ⟨gb123, 5, none⟩) (Kd.V_far (p := ⟨gb123, 4, none⟩) (Kd.V_far (p := ⟨gb123, 3, none⟩) (Kd.V_far (p := ⟨gb123, 2, none⟩) (Kd.V_far (p := ⟨gb123, 1, none⟩) (Kd.V_far (p := ⟨gb123, 0, none⟩) (Kd.V_mono HO_6.out (fun k_ hk => (⟨hk, hk.2⟩ : _ ∧ k_ ≠ gb123))) (fun _ hk => hk.2) (.int .i64 ((rd_T55 l0 x8_1).f0))) (fun _ hk => hk.2) (.int .i64 ((rd_T55 l0 x8_1).f1))) (fun _ hk => hk.2) (.int .u8 ((rd_T55 l0 x8_1).f2))) (fun _ hk => hk.2) (.int .i64 ((rd_T55 l0 x8_1).f3))) (fun _ hk => hk.2) (.slice A122_4 ((rd_T55 l0 x8_1).f4).length c122_4)) (fun _ hk => hk.2) (.slice A122_5 ((rd_T55 l0 x8_1).f5).length c122_5)) (fun _ hk => ⟨hk.1.1.1, ⟨hk.1.1.2, hk.1.2⟩⟩)))⟩; have n2_ : Aside0 (Kd.V (Kd.int .i64) 2 w8 w.heap.size (fun k_ => (P0_ k_ ∨ w.heap.size ≤ k_) ∧ some k_ ≠ (u3 : Value).ownBlock ∧ k_ ≠ gb123) (.slice A122_4 ((rd_T55 l0 x8_1).f4).length c122_4) ((rd_T55 l0 x8_1).f4)) := ⟨(by rw [hw]; exact (by (with_reducible repeat (first | apply Kd.V_alloc | apply Kd.V_drewN | apply Kd.V_drew)); exact Kd.V_mono (Kd.V_far (p := ⟨gb123, 5, none⟩) (Kd.V_far (p := ⟨gb123, 4, none⟩) (Kd.V_far (p := ⟨gb123, 3, none⟩) (Kd.V_far (p := ⟨gb123, 2, none⟩) (Kd.V_far (p := ⟨gb123, 1, none⟩) (Kd.V_far (p := ⟨gb123, 0, none⟩) (Kd.V_mono HL122_4.out (fun k_ hk => (⟨hk, hk.2⟩ : _ ∧ k_ ≠ gb123))) (fun _ hk => hk.2) (.int .i64 ((rd_T55 l0 x8_1).f0))) (fun _ hk => hk.2) (.int .i64 ((rd_T55 l0 x8_1).f1))) (fun _ hk => hk.2) (.int .u8 ((rd_T55 l0 x8_1).f2))) (fun _ hk => hk.2) (.int .i64 ((rd_T55 l0 x8_1).f3))) (fun _ hk => hk.2) (.slice A122_4 ((rd_T55 l0 x8_1).f4).length c122_4)) (fun _ hk => hk.2) (.slice A122_5 ((rd_T55 l0 x8_1).f5).length c122_5)) (fun _ hk => ⟨hk.1.1.1, ⟨hk.1.1.2, hk.1.2⟩⟩)))⟩; have n3_ : Aside0 (Kd.V (Kd.int .u8) 5 w8 w.heap.size (fun k_ => (P0_ k_ ∨ w.heap.size ≤ k_) ∧ some k_ ≠ (u3 : Value).ownBlock ∧ k_ ≠ gb123) (.slice A122_5 ((rd_T55 l0 x8_1).f5).length c122_5) ((rd_T55 l0 x8_1).f5)) := ⟨(by rw [hw]; exact (by (with_reducible repeat (first | apply Kd.V_alloc | apply Kd.V_drewN | apply Kd.V_drew)); exact Kd.V_mono (Kd.V_far (p := ⟨gb123, 5, none⟩) (Kd.V_far (p := ⟨gb123, 4, none⟩) (Kd.V_far (p := ⟨gb123, 3, none⟩) (Kd.V_far (p := ⟨gb123, 2, none⟩) (Kd.V_far (p := ⟨gb123, 1, none⟩) (Kd.V_far (p := ⟨gb123, 0, none⟩) (Kd.V_mono HL122_5.out (fun k_ hk => (⟨hk, hk.2⟩ : _ ∧ k_ ≠ gb123))) (fun _ hk => hk.2) (.int .i64 ((rd_T55 l0 x8_1).f0))) (fun _ hk => hk.2) (.int .i64 ((rd_T55 l0 x8_1).f1))) (fun _ hk => hk.2) (.int .u8 ((rd_T55 l0 x8_1).f2))) (fun _ hk => hk.2) (.int .i64 ((rd_T55 l0 x8_1).f3))) (fun _ hk => hk.2) (.slice A122_4 ((rd_T55 l0 x8_1).f4).length c122_4)) (fun _ hk => hk.2) (.slice A122_5 ((rd_T55 l0 x8_1).f5).length c122_5)) (fun _ hk => ⟨hk.1.1.1, ⟨hk.1.1.2, hk.1.2⟩⟩)))⟩; have n4_ : Aside0 (w8.heap[gb123]? = some (.cells #[.int .i64 ((rd_T55 l0 x8_1).f0), .int .i64 ((rd_T55 l0 x8_1).f1), .int .u8 ((rd_T55 l0 x8_1).f2), .int .i64 ((rd_T55 l0 x8_1).f3), .slice A122_4 ((rd_T55 l0 x8_1).f4).length c122_4, .slice A122_5 ((rd_T55 l0 x8_1).f5).length c122_5] 55 (0, 0))) := ⟨(by rw [hw]; exact (by (with_reducible repeat (first | refine blk_drewN ?_ _ | refine blk_drew ?_ | refine blk_alloc ?_ _)); refine blk_put (cs := #[.int .i64 ((rd_T55 l0 x8_1).f0), .int .i64 ((rd_T55 l0 x8_1).f1), .int .u8 ((rd_T55 l0 x8_1).f2), .int .i64 ((rd_T55 l0 x8_1).f3), .slice A122_4 ((rd_T55 l0 x8_1).f4).length c122_4, .slice none 0 0]) ?_ 5 _ rfl; (with_reducible repeat (first | refine blk_drewN ?_ _ | refine blk_drew ?_ | refine blk_alloc ?_ _)); refine blk_put (cs := #[.int .i64 ((rd_T55 l0 x8_1).f0), .int .i64 ((rd_T55 l0 x8_1).f1), .int .u8 ((rd_T55 l0 x8_1).f2), .int .i64 ((rd_T55 l0 x8_1).f3), .slice none 0 0, .slice none 0 0]) ?_ 4 _ rfl; (with_reducible repeat (first | refine blk_drewN ?_ _ | refine blk_drew ?_ | refine blk_alloc ?_ _)); refine blk_put (cs := #[.int .i64 ((rd_T55 l0 x8_1).f0), .int .i64 ((rd_T55 l0 x8_1).f1), .int .u8 ((rd_T55 l0 x8_1).f2), .int .i64 0, .slice none 0 0, .slice none 0 0]) ?_ 3 _ rfl; (with_reducible repeat (first | refine blk_drewN ?_ _ | refine blk_drew ?_ | refine blk_alloc ?_ _)); refine blk_put (cs := #[.int .i64 ((rd_T55 l0 x8_1).f0), .int .i64 ((rd_T55 l0 x8_1).f1), .int .u8 0, .int .i64 0, .slice none 0 0, .slice none 0 0]) ?_ 2 _ rfl; (with_reducible repeat (first | refine blk_drewN ?_ _ | refine blk_drew ?_ | refine blk_alloc ?_ _)); refine blk_put (cs := #[.int .i64 ((rd_T55 l0 x8_1).f0), .int .i64 0, .int .u8 0, .int .i64 0, .slice none 0 0, .slice none 0 0]) ?_ 1 _ rfl; (with_reducible repeat (first | refine blk_drewN ?_ _ | refine blk_drew ?_ | refine blk_alloc ?_ _)); refine blk_put (cs := #[.int .i64 0, .int .i64 0, .int .u8 0, .int .i64 0, .slice none 0 0, .slice none 0 0]) ?_ 0 _ rfl; (with_reducible repeat (first | refine blk_drewN ?_ _ | refine blk_drew ?_ | refine blk_alloc ?_ _)); exact BK123.out))⟩; have n5_ : Aside0 (Below w.heap.size w w8) := ⟨(by rw [hw]; exact (by repeat (first | (with_reducible first | exact HB.out | apply below_alloc | apply pw_below_drewN | apply below_drew1 | refine below_set ?_ GE123.out) | exact HB.out)))⟩; clear hw; clear HO_3; clear HO_6; clear HL122_4; clear HL122_5; clear BK123; clear HB; have HO_3 := n0_; have HO_6 := n1_; have HL122_4 := n2_; have HL122_5 := n3_; have BK123 := n4_; have HB := n5_; clear n0_ n1_ n2_ n3_ n4_ n5_; have hcz9_0 : w8.cell? ⟨gb123, 0, none⟩ = some (.int .i64 ((rd_T55 l0 x8_1).f0)) := (blk_cell BK123.out 0).trans rfl; have hcz9_1 : w8.cell? ⟨gb123, 1, none⟩ = some (.int .i64 ((rd_T55 l0 x8_1).f1)) := (blk_cell BK123.out 1).trans rfl; have hcz9_2 : w8.cell? ⟨gb123, 2, none⟩ = some (.int .u8 ((rd_T55 l0 x8_1).f2)) := (blk_cell BK123.out 2).trans rfl; have hcz9_3 : w8.cell? ⟨gb123, 3, none⟩ = some (.int .i64 ((rd_T55 l0 x8_1).f3)) := (blk_cell BK123.out 3).trans rfl; have hcz9_4 : w8.cell? ⟨gb123, 4, none⟩ = some (.slice A122_4 ((rd_T55 l0 x8_1).f4).length c122_4) := (blk_cell BK123.out 4).trans rfl; have hcz9_5 : w8.cell? ⟨gb123, 5, none⟩ = some (.slice A122_5 ((rd_T55 l0 x8_1).f5).length c122_5) := (blk_cell BK123.out 5).trans rfl; have hfz9_0 := blk_frozen BK123.out 0; have hfz9_1 := blk_frozen BK123.out 1; have hfz9_2 := blk_frozen BK123.out 2; have hfz9_3 := blk_frozen BK123.out 3; have hfz9_4 := blk_frozen BK123.out 4; have hfz9_5 := blk_frozen BK123.out 5) | ((with_reducible refine gate_builtin (b := .append) (xs := #[.tmp 12, .tmp 14]) rfl ?_); at_builtin; refine Kd.N_append k65 (w0 := w) w.heap.size rfl (.tmp 12) (.tmp 14) 28 65 (.agg #[(.int .i64 0), (.int .i64 0), (.int .u8 0), (.int .i64 0), (.slice none 0 0), (.slice none 0 0)]) 80 rfl Tryz.underlying28 info65 rfl (by decide) (by omega) u3 x3_1 (⟨(rd_T55 l0 x8_1).f0, (rd_T55 l0 x8_1).f1, (rd_T55 l0 x8_1).f2, (rd_T55 l0 x8_1).f3, (rd_T55 l0 x8_1).f4, (rd_T55 l0 x8_1).f5⟩ : S65) [.int .i64 ((rd_T55 l0 x8_1).f0), .int .i64 ((rd_T55 l0 x8_1).f1), .int .u8 ((rd_T55 l0 x8_1).f2), .int .i64 ((rd_T55 l0 x8_1).f3), .slice A122_4 ((rd_T55 l0 x8_1).f4).length c122_4, .slice A122_5 ((rd_T55 l0 x8_1).f5).length c122_5] (fun k_ => (P0_ k_ ∨ w.heap.size ≤ k_) ∧ k_ ≠ gb123) (fun k_ => ((fun k_ => (P0_ k_ ∨ w.heap.size ≤ k_) ∧ k_ ≠ gb123)) k_ ∧ some k_ ≠ (u3 : Value).ownBlock) rfl rfl ?aP (fun _ hk => hk) ?aF ?aO ?aB ?aS ?aL ?_; (case aP => exact (k65_mkF _ _ (⟨(rd_T55 l0 x8_1).f0, (rd_T55 l0 x8_1).f1, (rd_T55 l0 x8_1).f2, (rd_T55 l0 x8_1).f3, (rd_T55 l0 x8_1).f4, (rd_T55 l0 x8_1).f5⟩ : S65) (Kd.V_reads' (Kd.V_mono (ok' := (fun k_ => ((fun k_ => (P0_ k_ ∨ w.heap.size ≤ k_) ∧ k_ ≠ gb123)) k_ ∧ some k_ ≠ (u3 : Value).ownBlock)) (HL122_4.out) (fun k_ hk => ⟨⟨hk.1, hk.2.2⟩, hk.2.1⟩))).2.1 (Kd.V_F (Kd.V_mono (ok' := (fun k_ => ((fun k_ => (P0_ k_ ∨ w.heap.size ≤ k_) ∧ k_ ≠ gb123)) k_ ∧ some k_ ≠ (u3 : Value).ownBlock)) (HL122_4.out) (fun k_ hk => ⟨⟨hk.1, hk.2.2⟩, hk.2.1⟩))) (Kd.V_reads' (Kd.V_mono (ok' := (fun k_ => ((fun k_ => (P0_ k_ ∨ w.heap.size ≤ k_) ∧ k_ ≠ gb123)) k_ ∧ some k_ ≠ (u3 : Value).ownBlock)) (HL122_5.out) (fun k_ hk => ⟨⟨hk.1, hk.2.2⟩, hk.2.1⟩))).2.1 (Kd.V_F (Kd.V_mono (ok' := (fun k_ => ((fun k_ => (P0_ k_ ∨ w.heap.size ≤ k_) ∧ k_ ≠ gb123)) k_ ∧ some k_ ≠ (u3 : Value).ownBlock)) (HL122_5.out) (fun k_ hk => ⟨⟨hk.1, hk.2.2⟩, hk.2.1⟩))))); (case aB => exact (by repeat (first | (with_reducible first | exact HB.out | apply below_alloc | apply pw_below_drewN | apply below_drew1 | refine below_set ?_ GE123.out) | exact HB.out))); (case aF => exact (fun k_ hk => ⟨(.inr (Nat.le_trans (below_size (by repeat (first | (with_reducible first | exact HB.out | apply below_alloc | apply pw_below_drewN | apply below_drew1 | refine below_set ?_ GE123.out) | exact HB.out))) hk)), Kd.freshB (g := gb123) (o := .cells #[.int .i64 ((rd_T55 l0 x8_1).f0), .int .i64 ((rd_T55 l0 x8_1).f1), .int .u8 ((rd_T55 l0 x8_1).f2), .int .i64 ((rd_T55 l0 x8_1).f3), .slice A122_4 ((rd_T55 l0 x8_1).f4).length c122_4, .slice A122_5 ((rd_T55 l0 x8_1).f5).length c122_5] 55 (0, 0)) (by (with_reducible repeat (first | refine blk_drewN ?_ _ | refine blk_drew ?_ | refine blk_alloc ?_ _)); exact BK123.out) k_ hk⟩)); (case aO => exact (by (with_reducible repeat (first | apply Kd.N_alloc | apply Kd.N_drewN | apply Kd.N_drew)); exact HO_3.out)); (case aS => exact (below_size (by repeat (first | (with_reducible first | exact HB.out | apply below_alloc | apply pw_below_drewN | apply below_drew1 | refine below_set ?_ GE123.out) | exact HB.out)))); (case aL => have := LMc5.out; omega); intro v125 w10 ho hb hg hat; rw [← Ny124.out] at ho; have n0_ := Aside0.mk (Kd.V_afterv (ok := (fun k_ => (P0_ k_ ∨ w.heap.size ≤ k_) ∧ k_ ≠ gb123)) (by (with_reducible repeat (first | apply Kd.V_alloc | apply Kd.V_drewN | apply Kd.V_drew)); exact Kd.V_mono HO_6.out (fun _ hk => ⟨⟨hk.1, hk.2.2⟩, hk.2.1⟩)) hg hat); have n1_ := Aside0.mk (Kd.V_afterv (ok := (fun k_ => (P0_ k_ ∨ w.heap.size ≤ k_) ∧ k_ ≠ gb123)) (by (with_reducible repeat (first | apply Kd.V_alloc | apply Kd.V_drewN | apply Kd.V_drew)); exact Kd.V_mono HL122_4.out (fun _ hk => ⟨⟨hk.1, hk.2.2⟩, hk.2.1⟩)) hg hat); have n2_ := Aside0.mk (Kd.V_afterv (ok := (fun k_ => (P0_ k_ ∨ w.heap.size ≤ k_) ∧ k_ ≠ gb123)) (by (with_reducible repeat (first | apply Kd.V_alloc | apply Kd.V_drewN | apply Kd.V_drew)); exact Kd.V_mono HL122_5.out (fun _ hk => ⟨⟨hk.1, hk.2.2⟩, hk.2.1⟩)) hg hat); have n3_ := Aside0.mk (blk_grown (g := gb123) (o := .cells #[.int .i64 ((rd_T55 l0 x8_1).f0), .int .i64 ((rd_T55 l0 x8_1).f1), .int .u8 ((rd_T55 l0 x8_1).f2), .int .i64 ((rd_T55 l0 x8_1).f3), .slice A122_4 ((rd_T55 l0 x8_1).f4).length c122_4, .slice A122_5 ((rd_T55 l0 x8_1).f5).length c122_5] 55 (0, 0)) (by (with_reducible repeat (first | refine blk_drewN ?_ _ | refine blk_drew ?_ | refine blk_alloc ?_ _)); exact BK123.out) hg (Kd.N_ne HO_3.out BK123.out (by decide))); have n4_ := Aside0.mk (hb); have n5_ := Aside0.mk (ho); clear HO_6; clear HL122_4; clear HL122_5; clear BK123; clear HB; clear HO_3; have HO_6 := n0_; have HL122_4 := n1_; have HL122_5 := n2_; have BK123 := n3_; have HB := n4_; have HO126 := n5_; clear n0_ n1_ n2_ n3_ n4_ n5_; clear ho hb hg hat))
              go_roundg k1
              case measure => have := HK1.out; omega
              case rel => exact ⟨(y124), (wrap64 (x8_1 + 1)), (by first | rfl | (simp; done) | (simp [*]; done)), H', ⟨by have := HK1.out; omega⟩, ⟨by (with_reducible repeat (first | apply Kd.N_alloc | apply Kd.N_drewN | apply Kd.N_drew)); exact Kd.N_mono HO126.out (fun _ hk => hk.1)⟩, ⟨by (with_reducible repeat (first | apply Kd.V_alloc | apply Kd.V_drewN | apply Kd.V_drew)); exact Kd.V_mono HO_6.out (fun _ hk => ⟨hk.1.1, hk.2⟩)⟩, ⟨by repeat (first | (with_reducible first | exact HB.out | apply below_alloc | apply pw_below_drewN | apply below_drew1 | refine below_set ?_ GE123.out) | exact HB.out)⟩⟩
            · rw [if_neg c5] at H
              exact absurd H (by simp)
          · rw [if_neg c4] at H
            exact absurd H (by simp)
        · rw [if_neg c3] at H
          exact absurd H (by simp)
      · rw [if_neg c2] at H
        have c2b0 : decide (x8_1 < (l0.length : Int)) = false := decide_eq_false c2
        clear c2
        obtain rfl := Option.some.inj H
        go_wp2
        go_ret
        exact ⟨_, by first | rfl | (simp [errW_none, errW_some] <;> rfl) | (simp [*, errW_none, errW_some] <;> rfl), by (with_reducible repeat (first | apply Kd.N_alloc | apply Kd.N_drewN | apply Kd.N_drew)); exact HO_3.out, by repeat (first | (with_reducible first | exact HB.out | apply below_alloc | apply pw_below_drewN | apply below_drew1) | exact HB.out)⟩
end Go.Proofs.YtjkjnhcnmjknmaaGreatDoor.Y
end
section
namespace Go.Proofs.YtjkjnhcnmjknmaaGreatDoorW.PrintWords
open Go.ChangeShapes Go.WideShapes
end Go.Proofs.YtjkjnhcnmjknmaaGreatDoorW.PrintWords
end
section
namespace Go.Proofs.YtjkjnhcnmjknmaaGreatDoor.X
open Go.RowKit Go.Proofs.YtjkjnhcnmjknmaaGreatDoorW.PrintWords
theorem len2 {cs : List Value} (h : cs.length = 2) : ∃ a b, cs = [a, b] := by
  match cs, h with
  | [a, b], _ => exact ⟨a, b, rfl⟩
theorem list_of {α : Type} (P : Nat → α → Prop) : ∀ n, (∀ i, i < n → ∃ u, P i u) → ∃ l : List α, l.length = n ∧ ∀ i u, l[i]? = some u → P i u
  | 0, _ => ⟨[], rfl, fun i u h => by simp at h⟩
  | n + 1, h => by
    obtain ⟨l, hl, hP⟩ := list_of P n (fun i hi => h i (by omega))
    obtain ⟨u, hu⟩ := h n (by omega)
    refine ⟨l ++ [u], by simp [hl], fun i v hv => ?_⟩
    by_cases hi : i < l.length
    · rw [List.getElem?_append_left hi] at hv
      exact hP i v hv
    · rw [List.getElem?_append_right (by omega)] at hv
      have h0 : i - l.length = 0 := by
        have := (List.getElem?_eq_some_iff.1 hv).1
        simp at this
        omega
      rw [h0] at hv
      have : u = v := by simpa using hv
      subst this
      rwa [show i = n by omega]
theorem add_add (a : Addr) (m n : Nat) : (a.add m).add n = a.add (m + n) := by
  unfold Addr.add
  by_cases hm : m = 0
  · subst hm; simp
  · by_cases hn : n = 0
    · subst hn; simp [hm]
    · simp [hm, hn, Nat.add_assoc]
section
variable {H : Type} {enc : TypeId × Value → H} {W : World}
/-- What reads at type t holds an element of kind d, of which Q is known. -/
def Opens (enc : TypeId × Value → H) (W : World) (t : TypeId) {α : Type} (d : Kd α) (Q : α → Prop) : Prop :=
  ∀ fuel cs x, DataW.trod enc Tryz.prog W 0 (fun _ => true) true fuel t cs = some x → ∃ a, d.K W a cs ∧ Q a
theorem opens_int {t : TypeId} {k : IntKind} (ht : Tryz.prog.underlying t = some (.int k)) : Opens enc W t (Kd.int k) (fun n => (Lit.int k n).wf = true) := fun fuel cs x h => by
  obtain ⟨n, rfl, _, hw⟩ := DataW.trod_int ht h
  exact ⟨n, rfl, hw⟩
theorem opens_string {t : TypeId} (ht : Tryz.prog.underlying t = some .string) : Opens enc W t Kd.string (fun s => s.size ≤ maxLen) := fun fuel cs x h => by
  obtain ⟨n, rfl, _, hw⟩ := DataW.trod_string ht h
  exact ⟨n, rfl, hw⟩
theorem opens_slice {t e : TypeId} {α : Type} {d : Kd α} {Q : α → Prop} (ht : Tryz.prog.underlying t = some (.slice e)) (hc : Tryz.prog.cellsOf e = d.sz) (he : Opens enc W e d Q) :
    Opens enc W t (Kd.slice e d) (fun l => l.length ≤ maxLen ∧ ∀ a ∈ l, Q a) := fun fuel cs x h => by
  rcases DataW.trod_slice ht h with ⟨rfl, _⟩ | ⟨a, len, cap, elems, rest, n, _, rfl, _, _, hlc, hcm, hlen, hel, _⟩
  · exact ⟨[], ⟨none, 0, rfl, Nat.le_refl _, rfl, by simp, fun h => absurd h (by simp)⟩, by simp, by simp⟩
  · have each : ∀ i, i < len → ∃ c u, W.cells? 0 (a.add (i * d.sz)) d.sz = some c ∧ d.K W u c ∧ Q u := fun i hi => by
      have h1 := hel i hi
      rw [hc, List.getElem?_eq_getElem (by omega)] at h1
      obtain ⟨c, h2, h3⟩ := Option.bind_eq_some_iff.1 h1
      obtain ⟨u, hu, hq⟩ := he _ _ _ h3
      exact ⟨c, u, h2, hu, hq⟩
    obtain ⟨l, hl, hP⟩ := list_of (fun i u => ∃ c, W.cells? 0 (a.add (i * d.sz)) d.sz = some c ∧ d.K W u c ∧ Q u) len (fun i hi => by obtain ⟨c, u, h1, h2, h3⟩ := each i hi; exact ⟨u, c, h1, h2, h3⟩)
    refine ⟨l, ⟨some a, cap, by rw [hl], by omega, rfl, by unfold maxLen at hcm; omega, fun _ => ⟨a, rfl, fun j u hj => ?_⟩⟩, by omega, fun u hu => ?_⟩
    · obtain ⟨c, h1, h2, _⟩ := hP j u hj
      obtain ⟨_, hcl, hcell⟩ := World.cells?_some h1
      refine ⟨c, hcl, h2, fun i v hv => ?_⟩
      have hi : i < d.sz := by
        have := (List.getElem?_eq_some_iff.1 hv).1
        omega
      have := hcell i hi
      rw [hv] at this
      rw [← this, add_add]
    · obtain ⟨j, hj, rfl⟩ := List.mem_iff_getElem.1 hu
      obtain ⟨c, _, _, h3⟩ := hP j l[j] (List.getElem?_eq_getElem hj)
      exact h3
end
end Go.Proofs.YtjkjnhcnmjknmaaGreatDoor.X
end
