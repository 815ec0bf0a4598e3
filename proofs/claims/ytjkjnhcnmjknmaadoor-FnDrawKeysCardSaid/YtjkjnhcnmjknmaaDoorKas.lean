/- Texts of this claim, joined: Y38 WSized XOpen. Of each, what the claim uses. -/
import Derived.Test.YtjkjnhcnmjknmaaDoorKad
import Derived.Test.YtjkjnhcnmjknmaaDoorKar
import Derived.Test.YtjkjnhcnmjknmaaDoorKaq
import Derived.SizedLaws
import Derived.ChangeSlices
import Derived.Test.YtjkjnhcnmjknmaaDoorProg
import Derived.Test.YtjkjnhcnmjknmaaDoorKac
import Derived.ChangeArms
import Derived.DataReads
section
namespace Go.Proofs.YtjkjnhcnmjknmaaDoor.Y
open Go.RowKit Go.Proofs.YtjkjnhcnmjknmaaDoorW.PrintWords Go.Proofs.YtjkjnhcnmjknmaaDoorW.PrintLast Go.Proofs.YtjkjnhcnmjknmaaDoorW.PrintMore
attribute [local go_sem] max2_int min2_int max_two min_two max_three min_three max_four min_four   -- for this text's walks alone
set_option linter.unusedVariables false
set_option linter.unusedSimpArgs false
set_option maxHeartbeats 8000000 in
set_option maxRecDepth 100000 in
theorem laws_drawAwake.calls  (r : Bool) (w : World) (hT : XTab w) (h : laws_drawAwake.f  = some r) :
    Calls Tryd.prog 5 #[] w fun e w' => e = .returned (.bool r) ∧ Below w.heap.size w w' := by
  have HT := Aside0.mk hT
  clear hT
  have HB := Aside0.mk (Below.refl w.heap.size w)
  have H : ((impl_MakeNumber.f 0 3).bind fun t113 => ((gosem_conv.f t113).bind fun t114 => ((impl_Feed.f 32 4096 t114).bind fun t117 => (if (t117.length : Int) = 1 then (if 0 < (t117.length : Int) then (if ((rd_T30 t117 0).f0) = 2 then (some (((rd_T30 t117 0).f3) == 65)) else (some false)) else (none)) else (some false))))) = some r := h
  clear h
  replace H := Option.bind_eq_some_iff.mp H
  obtain ⟨t113, A10, H⟩ := H
  replace H : ((gosem_conv.f t113).bind fun t114 => ((impl_Feed.f 32 4096 t114).bind fun t117 => (if (t117.length : Int) = 1 then (if 0 < (t117.length : Int) then (if ((rd_T30 t117 0).f0) = 2 then (some (((rd_T30 t117 0).f3) == 65)) else (some false)) else (none)) else (some false)))) = some r := H
  have A1 := Aside0.mk A10
  clear A10
  replace H := Option.bind_eq_some_iff.mp H
  obtain ⟨t114, A20, H⟩ := H
  replace H : ((impl_Feed.f 32 4096 t114).bind fun t117 => (if (t117.length : Int) = 1 then (if 0 < (t117.length : Int) then (if ((rd_T30 t117 0).f0) = 2 then (some (((rd_T30 t117 0).f3) == 65)) else (some false)) else (none)) else (some false))) = some r := H
  have A2 := Aside0.mk A20
  clear A20
  replace H := Option.bind_eq_some_iff.mp H
  obtain ⟨t117, A30, H⟩ := H
  replace H : (if (t117.length : Int) = 1 then (if 0 < (t117.length : Int) then (if ((rd_T30 t117 0).f0) = 2 then (some (((rd_T30 t117 0).f3) == 65)) else (some false)) else (none)) else (some false)) = some r := H
  have A3 := Aside0.mk A30
  clear A30
  by_cases c4 : (t117.length : Int) = 1
  · rw [if_pos c4] at H
    have c4b0 : ((t117.length : Int) == 1) = true := beq_iff_eq.mpr c4
    have c4b1 : ((t117.length : Int) != 1) = false := bne_eq_false_iff_eq.mpr c4
    clear c4
    by_cases c5 : 0 < (t117.length : Int)
    · rw [if_pos c5] at H
      have c5b0 : decide (0 < (t117.length : Int)) = true := decide_eq_true c5
      have c5b1 : decide (0 < t117.length) = true := decide_eq_true (by omega)
      clear c5
      by_cases c6 : ((rd_T30 t117 0).f0) = 2
      · rw [if_pos c6] at H
        have c6b0 : (((rd_T30 t117 0).f0) == 2) = true := beq_iff_eq.mpr c6
        have c6b1 : (((rd_T30 t117 0).f0) != 2) = false := bne_eq_false_iff_eq.mpr c6
        clear c6
        obtain rfl := Option.some.inj H
        go_enter Tryd.func5, Tryd.ntmps5
        go_wp2_with (first | ((with_reducible refine gate_callee (f := 6) rfl ?_); refine goesL_ (some 2) rfl rfl Tryd.func6 (by kernel_rfl) rfl #[.int .i64 0, .int .i64 3] rfl (by (try simp only [List.map_toArray, List.map_cons, List.map_nil]); first | done | rfl | (simp only [List.length_drop, List.length_take]; rfl)) ?_; (with_reducible refine (impl_MakeNumber.calls 0 3 t113 _ ?side1 A1.out).mono ?_); (case side1 => exact XTab.below HT.out (by repeat (first | (with_reducible first | exact HB.out | apply below_alloc | apply pw_below_drewN | apply below_drew1) | exact HB.out))); rintro e w7 ⟨rfl, hb⟩; refine ⟨_, rfl, ?_⟩; have n0_ := Aside0.mk (below_step (by repeat (first | (with_reducible first | exact HB.out | apply below_alloc | apply pw_below_drewN | apply below_drew1) | exact HB.out)) hb); clear HB; have HB := n0_; clear n0_; (try clear hb); (try clear hb2); (try clear hk); (try clear hi)) | ((with_reducible refine gate_dst (N := 3) rfl ?_); refine conv_ev 9 28 5 rfl rfl Tryd.underlying9 Tryd.underlying28 Tryd.underlying5 t113 rfl A2.out ?_; rintro e w8 ⟨v115, rfl, ho0, hb⟩; refine ⟨_, rfl, ?_⟩; have n0_ := Aside0.mk (Kd.V_lower (Kd.V_mono (ok' := fun k_ => True) ho0 (fun k_ hk_ => trivial)) (below_size (by repeat (first | (with_reducible first | exact HB.out | apply below_alloc | apply pw_below_drewN | apply below_drew1) | exact HB.out)))); have n1_ := Aside0.mk (below_step (by repeat (first | (with_reducible first | exact HB.out | apply below_alloc | apply pw_below_drewN | apply below_drew1) | exact HB.out)) hb); clear HB; have HO116 := n0_; have HB := n1_; clear n0_ n1_; (try clear hb); (try clear hb2); (try clear hk); (try clear hi); (try clear ho0); obtain ⟨Ao9, co9, eo9⟩ := Kd.V_slice HO116.out; subst eo9) | ((with_reducible refine gate_callee (f := 7) rfl ?_); refine goesL_ (some 4) rfl rfl Tryd.func7 (by kernel_rfl) rfl #[.int .i64 32, .int .i64 4096, .slice Ao9 t114.length co9] rfl (by (try simp only [List.map_toArray, List.map_cons, List.map_nil]); first | done | rfl | (simp only [List.length_drop, List.length_take]; rfl)) ?_; (with_reducible refine (impl_Feed.calls 32 4096 _ _ t114 t117 _ ?side1 ?side2 A3.out).mono ?_); (case side1 => repeat (first | exact (Kd.V_reads' HO116.out).2.2 | (with_reducible refine Kd.C_alloc ?_ _) | (with_reducible refine Kd.C_drewN ?_ _) | (with_reducible refine Kd.C_drew ?_))); (case side2 => exact (Kd.V_reads' HO116.out).2.1); rintro e w10 ⟨v118, rfl, ho0, hb⟩; refine ⟨_, rfl, ?_⟩; have n0_ := Aside0.mk (Kd.V_elder' (by (with_reducible repeat (first | apply Kd.V_alloc | apply Kd.V_drewN | apply Kd.V_drew)); exact HO116.out) (Kd.S_base ho0) hb); have n1_ := Aside0.mk (Kd.S_lower ho0 (below_size (by repeat (first | (with_reducible first | exact HB.out | apply below_alloc | apply pw_below_drewN | apply below_drew1) | exact HB.out)))); have n2_ := Aside0.mk (below_step (by repeat (first | (with_reducible first | exact HB.out | apply below_alloc | apply pw_below_drewN | apply below_drew1) | exact HB.out)) hb); clear HO116; clear HB; have HO116 := n0_; have HO119 := n1_; have HB := n2_; clear n0_ n1_ n2_; (try clear hb); (try clear hb2); (try clear hk); (try clear hi); (try clear ho0); obtain ⟨Ao11, co11, eo11⟩ := Kd.S_slice HO119.out; subst eo11; have p120 : 0 ≤ (0 : Int) := (by omega); have q120 : 0 < (t117.length : Int) := of_decide_eq_true (by first | (with_reducible assumption) | assumption); obtain ⟨ad120, A120_4, c120_4, A120_5, c120_5, e120, hx120_0, hx120_1, hx120_2, hx120_3, hx120_4, hx120_5, hl120_4, hi120_4, hl120_5, hi120_5⟩ := at_T30 (Kd.S_reads' HO119.out).2.2 0 p120 q120; cases e120; obtain ⟨ce120, hce120, hMe120, hcc120⟩ := Kd.S_get HO119.out z30 0 p120 (by first | exact q120 | exact of_decide_eq_true (by first | (with_reducible assumption) | assumption) | (have e_ := (Kd.S_reads' HO119.out).1; omega)); obtain ⟨ve120_4, ve120_5, rfl, ge120_4, ge120_5⟩ := k30_openM hMe120; have hv120_4 := hcc120 4 _ rfl; rw [add_field _ _ 4 (by omega)] at hv120_4; replace hv120_4 := Option.some.inj (hv120_4.symm.trans hx120_4); rw [hv120_4] at ge120_4; have HL120_4 := Aside0.mk (show Kd.R (Kd.int .i64) 2 _ _ _ _ ((rd_T30 t117 0).f4) from ge120_4); clear hv120_4 ge120_4; have hv120_5 := hcc120 5 _ rfl; rw [add_field _ _ 5 (by omega)] at hv120_5; replace hv120_5 := Option.some.inj (hv120_5.symm.trans hx120_5); rw [hv120_5] at ge120_5; have HL120_5 := Aside0.mk (show Kd.R (Kd.int .u8) 5 _ _ _ _ ((rd_T30 t117 0).f5) from ge120_5); clear hv120_5 ge120_5; clear hcc120 hce120; have qi120 : (0 < t117.length) = True := eq_true (by omega); (try rw [show ((0 : Int)).toNat = 0 from rfl] at hx120_0); (try rw [show 0 * 6 = 0 from rfl] at hx120_0); (try rw [Addr.add_zero'] at hx120_0); (try rw [show ((0 : Int)).toNat = 0 from rfl] at hx120_1); (try rw [show 0 * 6 = 0 from rfl] at hx120_1); (try rw [Addr.add_zero'] at hx120_1); (try rw [show ((0 : Int)).toNat = 0 from rfl] at hx120_2); (try rw [show 0 * 6 = 0 from rfl] at hx120_2); (try rw [Addr.add_zero'] at hx120_2); (try rw [show ((0 : Int)).toNat = 0 from rfl] at hx120_3); (try rw [show 0 * 6 = 0 from rfl] at hx120_3); (try rw [Addr.add_zero'] at hx120_3); (try rw [show ((0 : Int)).toNat = 0 from rfl] at hx120_4); (try rw [show 0 * 6 = 0 from rfl] at hx120_4); (try rw [Addr.add_zero'] at hx120_4); (try rw [show ((0 : Int)).toNat = 0 from rfl] at hx120_5); (try rw [show 0 * 6 = 0 from rfl] at hx120_5); (try rw [Addr.add_zero'] at hx120_5); have HR120_4 := Aside0.mk hi120_4; have HC120_4 := Aside0.mk hl120_4; clear hi120_4 hl120_4; have HR120_5 := Aside0.mk hi120_5; have HC120_5 := Aside0.mk hl120_5; clear hi120_5 hl120_5; replace p120 := eq_true p120; replace q120 := eq_true q120; have p121 : 0 ≤ (0 : Int) := (by omega); have q121 : 0 < (t117.length : Int) := of_decide_eq_true (by first | (with_reducible assumption) | assumption); obtain ⟨ad121, A121_4, c121_4, A121_5, c121_5, e121, hx121_0, hx121_1, hx121_2, hx121_3, hx121_4, hx121_5, hl121_4, hi121_4, hl121_5, hi121_5⟩ := at_T30 (Kd.S_reads' HO119.out).2.2 0 p121 q121; obtain rfl : ad120 = ad121 := (by injection e121); obtain ⟨ce121, hce121, hMe121, hcc121⟩ := Kd.S_get HO119.out z30 0 p121 (by first | exact q121 | exact of_decide_eq_true (by first | (with_reducible assumption) | assumption) | (have e_ := (Kd.S_reads' HO119.out).1; omega)); obtain ⟨ve121_4, ve121_5, rfl, ge121_4, ge121_5⟩ := k30_openM hMe121; have hv121_4 := hcc121 4 _ rfl; rw [add_field _ _ 4 (by omega)] at hv121_4; replace hv121_4 := Option.some.inj (hv121_4.symm.trans hx121_4); rw [hv121_4] at ge121_4; have HL121_4 := Aside0.mk (show Kd.R (Kd.int .i64) 2 _ _ _ _ ((rd_T30 t117 0).f4) from ge121_4); clear hv121_4 ge121_4; have hv121_5 := hcc121 5 _ rfl; rw [add_field _ _ 5 (by omega)] at hv121_5; replace hv121_5 := Option.some.inj (hv121_5.symm.trans hx121_5); rw [hv121_5] at ge121_5; have HL121_5 := Aside0.mk (show Kd.R (Kd.int .u8) 5 _ _ _ _ ((rd_T30 t117 0).f5) from ge121_5); clear hv121_5 ge121_5; clear hcc121 hce121; have qi121 : (0 < t117.length) = True := eq_true (by omega); (try rw [show ((0 : Int)).toNat = 0 from rfl] at hx121_0); (try rw [show 0 * 6 = 0 from rfl] at hx121_0); (try rw [Addr.add_zero'] at hx121_0); (try rw [show ((0 : Int)).toNat = 0 from rfl] at hx121_1); (try rw [show 0 * 6 = 0 from rfl] at hx121_1); (try rw [Addr.add_zero'] at hx121_1); (try rw [show ((0 : Int)).toNat = 0 from rfl] at hx121_2); (try rw [show 0 * 6 = 0 from rfl] at hx121_2); (try rw [Addr.add_zero'] at hx121_2); (try rw [show ((0 : Int)).toNat = 0 from rfl] at hx121_3); (try rw [show 0 * 6 = 0 from rfl] at hx121_3); (try rw [Addr.add_zero'] at hx121_3); (try rw [show ((0 : Int)).toNat = 0 from rfl] at hx121_4); (try rw [show 0 * 6 = 0 from rfl] at hx121_4); (try rw [Addr.add_zero'] at hx121_4); (try rw [show ((0 : Int)).toNat = 0 from rfl] at hx121_5); (try rw [show 0 * 6 = 0 from rfl] at hx121_5); (try rw [Addr.add_zero'] at hx121_5); have HR121_4 := Aside0.mk hi121_4; have HC121_4 := Aside0.mk hl121_4; clear hi121_4 hl121_4; have HR121_5 := Aside0.mk hi121_5; have HC121_5 := Aside0.mk hl121_5; clear hi121_5 hl121_5; replace p121 := eq_true p121; replace q121 := eq_true q121; have ea_ := Option.some.inj (hx120_4.symm.trans hx121_4); injection ea_ with ea_ en_ ec_; subst ea_; subst ec_; clear en_; have ea_ := Option.some.inj (hx120_5.symm.trans hx121_5); injection ea_ with ea_ en_ ec_; subst ea_; subst ec_; clear en_))
        go_ret
        exact ⟨by first | rfl | (simp [errW_none, errW_some] <;> rfl) | (simp [*, errW_none, errW_some] <;> rfl), by repeat (first | (with_reducible first | exact HB.out | apply below_alloc | apply pw_below_drewN | apply below_drew1) | exact HB.out)⟩
      · rw [if_neg c6] at H
        have c6b0 : (((rd_T30 t117 0).f0) == 2) = false := beq_eq_false_iff_ne.mpr c6
        have c6b1 : (((rd_T30 t117 0).f0) != 2) = true := bne_iff_ne.mpr c6
        obtain rfl := Option.some.inj H
        go_enter Tryd.func5, Tryd.ntmps5
        go_wp2_with (first | ((with_reducible refine gate_callee (f := 6) rfl ?_); refine goesL_ (some 2) rfl rfl Tryd.func6 (by kernel_rfl) rfl #[.int .i64 0, .int .i64 3] rfl (by (try simp only [List.map_toArray, List.map_cons, List.map_nil]); first | done | rfl | (simp only [List.length_drop, List.length_take]; rfl)) ?_; (with_reducible refine (impl_MakeNumber.calls 0 3 t113 _ ?side1 A1.out).mono ?_); (case side1 => exact XTab.below HT.out (by repeat (first | (with_reducible first | exact HB.out | apply below_alloc | apply pw_below_drewN | apply below_drew1) | exact HB.out))); rintro e w12 ⟨rfl, hb⟩; refine ⟨_, rfl, ?_⟩; have n0_ := Aside0.mk (below_step (by repeat (first | (with_reducible first | exact HB.out | apply below_alloc | apply pw_below_drewN | apply below_drew1) | exact HB.out)) hb); clear HB; have HB := n0_; clear n0_; (try clear hb); (try clear hb2); (try clear hk); (try clear hi)) | ((with_reducible refine gate_dst (N := 3) rfl ?_); refine conv_ev 9 28 5 rfl rfl Tryd.underlying9 Tryd.underlying28 Tryd.underlying5 t113 rfl A2.out ?_; rintro e w13 ⟨v115, rfl, ho0, hb⟩; refine ⟨_, rfl, ?_⟩; have n0_ := Aside0.mk (Kd.V_lower (Kd.V_mono (ok' := fun k_ => True) ho0 (fun k_ hk_ => trivial)) (below_size (by repeat (first | (with_reducible first | exact HB.out | apply below_alloc | apply pw_below_drewN | apply below_drew1) | exact HB.out)))); have n1_ := Aside0.mk (below_step (by repeat (first | (with_reducible first | exact HB.out | apply below_alloc | apply pw_below_drewN | apply below_drew1) | exact HB.out)) hb); clear HB; have HO116 := n0_; have HB := n1_; clear n0_ n1_; (try clear hb); (try clear hb2); (try clear hk); (try clear hi); (try clear ho0); obtain ⟨Ao14, co14, eo14⟩ := Kd.V_slice HO116.out; subst eo14) | ((with_reducible refine gate_callee (f := 7) rfl ?_); refine goesL_ (some 4) rfl rfl Tryd.func7 (by kernel_rfl) rfl #[.int .i64 32, .int .i64 4096, .slice Ao14 t114.length co14] rfl (by (try simp only [List.map_toArray, List.map_cons, List.map_nil]); first | done | rfl | (simp only [List.length_drop, List.length_take]; rfl)) ?_; (with_reducible refine (impl_Feed.calls 32 4096 _ _ t114 t117 _ ?side1 ?side2 A3.out).mono ?_); (case side1 => repeat (first | exact (Kd.V_reads' HO116.out).2.2 | (with_reducible refine Kd.C_alloc ?_ _) | (with_reducible refine Kd.C_drewN ?_ _) | (with_reducible refine Kd.C_drew ?_))); (case side2 => exact (Kd.V_reads' HO116.out).2.1); rintro e w15 ⟨v118, rfl, ho0, hb⟩; refine ⟨_, rfl, ?_⟩; have n0_ := Aside0.mk (Kd.V_elder' (by (with_reducible repeat (first | apply Kd.V_alloc | apply Kd.V_drewN | apply Kd.V_drew)); exact HO116.out) (Kd.S_base ho0) hb); have n1_ := Aside0.mk (Kd.S_lower ho0 (below_size (by repeat (first | (with_reducible first | exact HB.out | apply below_alloc | apply pw_below_drewN | apply below_drew1) | exact HB.out)))); have n2_ := Aside0.mk (below_step (by repeat (first | (with_reducible first | exact HB.out | apply below_alloc | apply pw_below_drewN | apply below_drew1) | exact HB.out)) hb); clear HO116; clear HB; have HO116 := n0_; have HO119 := n1_; have HB := n2_; clear n0_ n1_ n2_; (try clear hb); (try clear hb2); (try clear hk); (try clear hi); (try clear ho0); obtain ⟨Ao16, co16, eo16⟩ := Kd.S_slice HO119.out; subst eo16; have p120 : 0 ≤ (0 : Int) := (by omega); have q120 : 0 < (t117.length : Int) := of_decide_eq_true (by first | (with_reducible assumption) | assumption); obtain ⟨ad120, A120_4, c120_4, A120_5, c120_5, e120, hx120_0, hx120_1, hx120_2, hx120_3, hx120_4, hx120_5, hl120_4, hi120_4, hl120_5, hi120_5⟩ := at_T30 (Kd.S_reads' HO119.out).2.2 0 p120 q120; cases e120; obtain ⟨ce120, hce120, hMe120, hcc120⟩ := Kd.S_get HO119.out z30 0 p120 (by first | exact q120 | exact of_decide_eq_true (by first | (with_reducible assumption) | assumption) | (have e_ := (Kd.S_reads' HO119.out).1; omega)); obtain ⟨ve120_4, ve120_5, rfl, ge120_4, ge120_5⟩ := k30_openM hMe120; have hv120_4 := hcc120 4 _ rfl; rw [add_field _ _ 4 (by omega)] at hv120_4; replace hv120_4 := Option.some.inj (hv120_4.symm.trans hx120_4); rw [hv120_4] at ge120_4; have HL120_4 := Aside0.mk (show Kd.R (Kd.int .i64) 2 _ _ _ _ ((rd_T30 t117 0).f4) from ge120_4); clear hv120_4 ge120_4; have hv120_5 := hcc120 5 _ rfl; rw [add_field _ _ 5 (by omega)] at hv120_5; replace hv120_5 := Option.some.inj (hv120_5.symm.trans hx120_5); rw [hv120_5] at ge120_5; have HL120_5 := Aside0.mk (show Kd.R (Kd.int .u8) 5 _ _ _ _ ((rd_T30 t117 0).f5) from ge120_5); clear hv120_5 ge120_5; clear hcc120 hce120; have qi120 : (0 < t117.length) = True := eq_true (by omega); (try rw [show ((0 : Int)).toNat = 0 from rfl] at hx120_0); (try rw [show 0 * 6 = 0 from rfl] at hx120_0); (try rw [Addr.add_zero'] at hx120_0); (try rw [show ((0 : Int)).toNat = 0 from rfl] at hx120_1); (try rw [show 0 * 6 = 0 from rfl] at hx120_1); (try rw [Addr.add_zero'] at hx120_1); (try rw [show ((0 : Int)).toNat = 0 from rfl] at hx120_2); (try rw [show 0 * 6 = 0 from rfl] at hx120_2); (try rw [Addr.add_zero'] at hx120_2); (try rw [show ((0 : Int)).toNat = 0 from rfl] at hx120_3); (try rw [show 0 * 6 = 0 from rfl] at hx120_3); (try rw [Addr.add_zero'] at hx120_3); (try rw [show ((0 : Int)).toNat = 0 from rfl] at hx120_4); (try rw [show 0 * 6 = 0 from rfl] at hx120_4); (try rw [Addr.add_zero'] at hx120_4); (try rw [show ((0 : Int)).toNat = 0 from rfl] at hx120_5); (try rw [show 0 * 6 = 0 from rfl] at hx120_5); (try rw [Addr.add_zero'] at hx120_5); have HR120_4 := Aside0.mk hi120_4; have HC120_4 := Aside0.mk hl120_4; clear hi120_4 hl120_4; have HR120_5 := Aside0.mk hi120_5; have HC120_5 := Aside0.mk hl120_5; clear hi120_5 hl120_5; replace p120 := eq_true p120; replace q120 := eq_true q120))
        go_ret
        exact ⟨by first | rfl | (simp [errW_none, errW_some] <;> rfl) | (simp [*, errW_none, errW_some] <;> rfl), by repeat (first | (with_reducible first | exact HB.out | apply below_alloc | apply pw_below_drewN | apply below_drew1) | exact HB.out)⟩
    · rw [if_neg c5] at H
      exact absurd H (by simp)
  · rw [if_neg c4] at H
    have c4b0 : ((t117.length : Int) == 1) = false := beq_eq_false_iff_ne.mpr c4
    have c4b1 : ((t117.length : Int) != 1) = true := bne_iff_ne.mpr c4
    obtain rfl := Option.some.inj H
    go_enter Tryd.func5, Tryd.ntmps5
    go_wp2_with (first | ((with_reducible refine gate_callee (f := 6) rfl ?_); refine goesL_ (some 2) rfl rfl Tryd.func6 (by kernel_rfl) rfl #[.int .i64 0, .int .i64 3] rfl (by (try simp only [List.map_toArray, List.map_cons, List.map_nil]); first | done | rfl | (simp only [List.length_drop, List.length_take]; rfl)) ?_; (with_reducible refine (impl_MakeNumber.calls 0 3 t113 _ ?side1 A1.out).mono ?_); (case side1 => exact XTab.below HT.out (by repeat (first | (with_reducible first | exact HB.out | apply below_alloc | apply pw_below_drewN | apply below_drew1) | exact HB.out))); rintro e w17 ⟨rfl, hb⟩; refine ⟨_, rfl, ?_⟩; have n0_ := Aside0.mk (below_step (by repeat (first | (with_reducible first | exact HB.out | apply below_alloc | apply pw_below_drewN | apply below_drew1) | exact HB.out)) hb); clear HB; have HB := n0_; clear n0_; (try clear hb); (try clear hb2); (try clear hk); (try clear hi)) | ((with_reducible refine gate_dst (N := 3) rfl ?_); refine conv_ev 9 28 5 rfl rfl Tryd.underlying9 Tryd.underlying28 Tryd.underlying5 t113 rfl A2.out ?_; rintro e w18 ⟨v115, rfl, ho0, hb⟩; refine ⟨_, rfl, ?_⟩; have n0_ := Aside0.mk (Kd.V_lower (Kd.V_mono (ok' := fun k_ => True) ho0 (fun k_ hk_ => trivial)) (below_size (by repeat (first | (with_reducible first | exact HB.out | apply below_alloc | apply pw_below_drewN | apply below_drew1) | exact HB.out)))); have n1_ := Aside0.mk (below_step (by repeat (first | (with_reducible first | exact HB.out | apply below_alloc | apply pw_below_drewN | apply below_drew1) | exact HB.out)) hb); clear HB; have HO116 := n0_; have HB := n1_; clear n0_ n1_; (try clear hb); (try clear hb2); (try clear hk); (try clear hi); (try clear ho0); obtain ⟨Ao19, co19, eo19⟩ := Kd.V_slice HO116.out; subst eo19) | ((with_reducible refine gate_callee (f := 7) rfl ?_); refine goesL_ (some 4) rfl rfl Tryd.func7 (by kernel_rfl) rfl #[.int .i64 32, .int .i64 4096, .slice Ao19 t114.length co19] rfl (by (try simp only [List.map_toArray, List.map_cons, List.map_nil]); first | done | rfl | (simp only [List.length_drop, List.length_take]; rfl)) ?_; (with_reducible refine (impl_Feed.calls 32 4096 _ _ t114 t117 _ ?side1 ?side2 A3.out).mono ?_); (case side1 => repeat (first | exact (Kd.V_reads' HO116.out).2.2 | (with_reducible refine Kd.C_alloc ?_ _) | (with_reducible refine Kd.C_drewN ?_ _) | (with_reducible refine Kd.C_drew ?_))); (case side2 => exact (Kd.V_reads' HO116.out).2.1); rintro e w20 ⟨v118, rfl, ho0, hb⟩; refine ⟨_, rfl, ?_⟩; have n0_ := Aside0.mk (Kd.V_elder' (by (with_reducible repeat (first | apply Kd.V_alloc | apply Kd.V_drewN | apply Kd.V_drew)); exact HO116.out) (Kd.S_base ho0) hb); have n1_ := Aside0.mk (Kd.S_lower ho0 (below_size (by repeat (first | (with_reducible first | exact HB.out | apply below_alloc | apply pw_below_drewN | apply below_drew1) | exact HB.out)))); have n2_ := Aside0.mk (below_step (by repeat (first | (with_reducible first | exact HB.out | apply below_alloc | apply pw_below_drewN | apply below_drew1) | exact HB.out)) hb); clear HO116; clear HB; have HO116 := n0_; have HO119 := n1_; have HB := n2_; clear n0_ n1_ n2_; (try clear hb); (try clear hb2); (try clear hk); (try clear hi); (try clear ho0); obtain ⟨Ao21, co21, eo21⟩ := Kd.S_slice HO119.out; subst eo21))
    go_ret
    exact ⟨by first | rfl | (simp [errW_none, errW_some] <;> rfl) | (simp [*, errW_none, errW_some] <;> rfl), by repeat (first | (with_reducible first | exact HB.out | apply below_alloc | apply pw_below_drewN | apply below_drew1) | exact HB.out)⟩
end Go.Proofs.YtjkjnhcnmjknmaaDoor.Y
end
section
namespace Go.Proofs.YtjkjnhcnmjknmaaDoorW.PrintWords
open Go.ChangeShapes Go.WideShapes
end Go.Proofs.YtjkjnhcnmjknmaaDoorW.PrintWords
end
section
namespace Go.Proofs.YtjkjnhcnmjknmaaDoor.X
open Go.RowKit Go.Proofs.YtjkjnhcnmjknmaaDoorW.PrintWords
theorem len1 {cs : List Value} (h : cs.length = 1) : ∃ a, cs = [a] := by
  match cs, h with
  | [a], _ => exact ⟨a, rfl⟩
theorem list_of {α : Type} (P : Nat → α → Prop) : ∀ n, (∀ i, i < n → ∃ u, P i u) → ∃ l : List α, l.length = n ∧ ∀ i u, l[i]? = some u → P i u
  | 0, _ => ⟨[], rfl, fun i u h => by simp at h⟩
  | n + 1, h => by
    obtain ⟨l, hl, hP⟩ := list_of P n (fun i hi => h i (by omega))
    obtain ⟨u, hu⟩ := h n (by omega)
    refine ⟨l ++ [u], by simp [hl], fun i v hv => ?_⟩
    by_cases hi : i < l.length
    · rw [List.getElem?_append_left hi] at hv
      exact hP i v hv
    · rw [List.getElem?_append_right (by omega)] at hv
      have h0 : i - l.length = 0 := by
        have := (List.getElem?_eq_some_iff.1 hv).1
        simp at this
        omega
      rw [h0] at hv
      have : u = v := by simpa using hv
      subst this
      rwa [show i = n by omega]
theorem add_add (a : Addr) (m n : Nat) : (a.add m).add n = a.add (m + n) := by
  unfold Addr.add
  by_cases hm : m = 0
  · subst hm; simp
  · by_cases hn : n = 0
    · subst hn; simp [hm]
    · simp [hm, hn, Nat.add_assoc]
section
variable {H : Type} {enc : TypeId × Value → H} {W : World}
/-- What reads at type t holds an element of kind d, of which Q is known. -/
def Opens (enc : TypeId × Value → H) (W : World) (t : TypeId) {α : Type} (d : Kd α) (Q : α → Prop) : Prop :=
  ∀ fuel cs x, DataW.trod enc Tryd.prog W 0 (fun _ => true) true fuel t cs = some x → ∃ a, d.K W a cs ∧ Q a
theorem opens_int {t : TypeId} {k : IntKind} (ht : Tryd.prog.underlying t = some (.int k)) : Opens enc W t (Kd.int k) (fun n => (Lit.int k n).wf = true) := fun fuel cs x h => by
  obtain ⟨n, rfl, _, hw⟩ := DataW.trod_int ht h
  exact ⟨n, rfl, hw⟩
theorem opens_bool {t : TypeId} (ht : Tryd.prog.underlying t = some .bool) : Opens enc W t Kd.bool (fun _ => True) := fun fuel cs x h => by
  obtain ⟨n, rfl, _⟩ := DataW.trod_bool ht h
  exact ⟨n, rfl, trivial⟩
theorem opens_slice {t e : TypeId} {α : Type} {d : Kd α} {Q : α → Prop} (ht : Tryd.prog.underlying t = some (.slice e)) (hc : Tryd.prog.cellsOf e = d.sz) (he : Opens enc W e d Q) :
    Opens enc W t (Kd.slice e d) (fun l => l.length ≤ maxLen ∧ ∀ a ∈ l, Q a) := fun fuel cs x h => by
  rcases DataW.trod_slice ht h with ⟨rfl, _⟩ | ⟨a, len, cap, elems, rest, n, _, rfl, _, _, hlc, hcm, hlen, hel, _⟩
  · exact ⟨[], ⟨none, 0, rfl, Nat.le_refl _, rfl, by simp, fun h => absurd h (by simp)⟩, by simp, by simp⟩
  · have each : ∀ i, i < len → ∃ c u, W.cells? 0 (a.add (i * d.sz)) d.sz = some c ∧ d.K W u c ∧ Q u := fun i hi => by
      have h1 := hel i hi
      rw [hc, List.getElem?_eq_getElem (by omega)] at h1
      obtain ⟨c, h2, h3⟩ := Option.bind_eq_some_iff.1 h1
      obtain ⟨u, hu, hq⟩ := he _ _ _ h3
      exact ⟨c, u, h2, hu, hq⟩
    obtain ⟨l, hl, hP⟩ := list_of (fun i u => ∃ c, W.cells? 0 (a.add (i * d.sz)) d.sz = some c ∧ d.K W u c ∧ Q u) len (fun i hi => by obtain ⟨c, u, h1, h2, h3⟩ := each i hi; exact ⟨u, c, h1, h2, h3⟩)
    refine ⟨l, ⟨some a, cap, by rw [hl], by omega, rfl, by unfold maxLen at hcm; omega, fun _ => ⟨a, rfl, fun j u hj => ?_⟩⟩, by omega, fun u hu => ?_⟩
    · obtain ⟨c, h1, h2, _⟩ := hP j u hj
      obtain ⟨_, hcl, hcell⟩ := World.cells?_some h1
      refine ⟨c, hcl, h2, fun i v hv => ?_⟩
      have hi : i < d.sz := by
        have := (List.getElem?_eq_some_iff.1 hv).1
        omega
      have := hcell i hi
      rw [hv] at this
      rw [← this, add_add]
    · obtain ⟨j, hj, rfl⟩ := List.mem_iff_getElem.1 hu
      obtain ⟨c, _, _, h3⟩ := hP j l[j] (List.getElem?_eq_getElem hj)
      exact h3
end
end Go.Proofs.YtjkjnhcnmjknmaaDoor.X
end
