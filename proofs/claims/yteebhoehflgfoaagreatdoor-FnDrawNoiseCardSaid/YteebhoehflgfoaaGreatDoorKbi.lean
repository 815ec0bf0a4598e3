/- Texts of this claim, joined: Y10 Y11D Y11 XScrLaws XNoise XScrPlain. Of each, what the claim uses. -/
import Derived.Test.YteebhoehflgfoaaGreatDoorKac
import Derived.Test.YteebhoehflgfoaaGreatDoorKaq
import Derived.Test.YteebhoehflgfoaaGreatDoorKat
import Derived.Test.YteebhoehflgfoaaGreatDoorKbd
import Derived.Test.YteebhoehflgfoaaGreatDoorKbe
import Derived.Test.YteebhoehflgfoaaGreatDoorKbf
import Derived.Test.YteebhoehflgfoaaGreatDoorKbh
import Derived.Test.YteebhoehflgfoaaGreatDoorKaz
import Derived.Test.YteebhoehflgfoaaGreatDoorKay
import Derived.Deep.LoopGhost
import Derived.StillTailTactics
import Derived.Deep.QuietTactic
import Derived.BigQuiet
section
namespace Go.Proofs.YteebhoehflgfoaaGreatDoor.Y
open Go.RowKit Go.Proofs.YteebhoehflgfoaaGreatDoorW.PrintWords Go.Proofs.YteebhoehflgfoaaGreatDoorW.PrintLast Go.Proofs.YteebhoehflgfoaaGreatDoorW.PrintMore
attribute [local go_sem] max2_int min2_int max_two min_two max_three min_three max_four min_four
set_option linter.unusedVariables false
set_option linter.unusedSimpArgs false
set_option maxHeartbeats 8000000 in
set_option maxRecDepth 100000 in
theorem laws_drawAwake.calls  (r : Bool) (w : World) (hT : XTab w) (h : laws_drawAwake.f  = some r) :
  Calls Tryz.prog 6 #[] w fun e w' => e = .returned (.bool r) ∧ Below w.heap.size w w' := by
 have HT := Aside0.mk hT
 clear hT
 have HB := Aside0.mk (Below.refl w.heap.size w)
 have H : ((impl_MakeNumber.f 0 3).bind fun t114 => ((gosem_conv.f t114).bind fun t115 => ((impl_Feed.f 32 4096 t115).bind fun t118 => (if (t118.length : Int) = 1 then (if 0 < (t118.length : Int) then (if ((rd_T43 t118 0).f0) = 2 then (some (((rd_T43 t118 0).f3) == 65)) else (some false)) else (none)) else (some false))))) = some r := h
 clear h
 replace H := Option.bind_eq_some_iff.mp H
 obtain ⟨t114, A10, H⟩ := H
 replace H : ((gosem_conv.f t114).bind fun t115 => ((impl_Feed.f 32 4096 t115).bind fun t118 => (if (t118.length : Int) = 1 then (if 0 < (t118.length : Int) then (if ((rd_T43 t118 0).f0) = 2 then (some (((rd_T43 t118 0).f3) == 65)) else (some false)) else (none)) else (some false)))) = some r := H
 have A1 := Aside0.mk A10
 clear A10
 replace H := Option.bind_eq_some_iff.mp H
 obtain ⟨t115, A20, H⟩ := H
 replace H : ((impl_Feed.f 32 4096 t115).bind fun t118 => (if (t118.length : Int) = 1 then (if 0 < (t118.length : Int) then (if ((rd_T43 t118 0).f0) = 2 then (some (((rd_T43 t118 0).f3) == 65)) else (some false)) else (none)) else (some false))) = some r := H
 have A2 := Aside0.mk A20
 clear A20
 replace H := Option.bind_eq_some_iff.mp H
 obtain ⟨t118, A30, H⟩ := H
 replace H : (if (t118.length : Int) = 1 then (if 0 < (t118.length : Int) then (if ((rd_T43 t118 0).f0) = 2 then (some (((rd_T43 t118 0).f3) == 65)) else (some false)) else (none)) else (some false)) = some r := H
 have A3 := Aside0.mk A30
 clear A30
 by_cases c4 : (t118.length : Int) = 1
 ·rw [if_pos c4] at H
  have c4b0 : ((t118.length : Int) == 1) = true := beq_iff_eq.mpr c4
  have c4b1 : ((t118.length : Int) != 1) = false := bne_eq_false_iff_eq.mpr c4
  clear c4
  by_cases c5 : 0 < (t118.length : Int)
  ·rw [if_pos c5] at H
   have c5b0 : decide (0 < (t118.length : Int)) = true := decide_eq_true c5
   have c5b1 : decide (0 < t118.length) = true := decide_eq_true (by omega)
   clear c5
   by_cases c6 : ((rd_T43 t118 0).f0) = 2
   ·rw [if_pos c6] at H
    have c6b0 : (((rd_T43 t118 0).f0) == 2) = true := beq_iff_eq.mpr c6
    have c6b1 : (((rd_T43 t118 0).f0) != 2) = false := bne_eq_false_iff_eq.mpr c6
    clear c6
    obtain rfl := Option.some.inj H
    go_enter Tryz.func6, Tryz.ntmps6
    go_wp2_with (first | ((with_reducible refine gate_callee (f := 19) rfl ?_); refine goesL_ (some 2) rfl rfl Tryz.func19 (by kernel_rfl) rfl #[.int .i64 0, .int .i64 3] rfl (by (try simp only [List.map_toArray, List.map_cons, List.map_nil]); first | done | rfl | (simp only [List.length_drop, List.length_take]; rfl)) ?_; (with_reducible refine (impl_MakeNumber.calls 0 3 t114 _ ?side1 A1.out).mono ?_); (case side1 => exact XTab.below HT.out (by repeat (first | (with_reducible first | exact HB.out | apply below_alloc | apply pw_below_drewN | apply below_drew1) | exact HB.out))); rintro e w7 ⟨rfl, hb⟩; refine ⟨_, rfl, ?_⟩; have n0_ := Aside0.mk (below_step (by repeat (first | (with_reducible first | exact HB.out | apply below_alloc | apply pw_below_drewN | apply below_drew1) | exact HB.out)) hb); clear HB; have HB := n0_; clear n0_; (try clear hb); (try clear hb2); (try clear hk); (try clear hi)) | ((with_reducible refine gate_dst (N := 3) rfl ?_); refine conv_ev 9 23 5 rfl rfl Tryz.underlying9 Tryz.underlying23 Tryz.underlying5 t114 rfl A2.out ?_; rintro e w8 ⟨v116, rfl, ho0, hb⟩; refine ⟨_, rfl, ?_⟩; have n0_ := Aside0.mk (Kd.V_lower (Kd.V_mono (ok' := fun k_ => True) ho0 (fun k_ hk_ => trivial)) (below_size (by repeat (first | (with_reducible first | exact HB.out | apply below_alloc | apply pw_below_drewN | apply below_drew1) | exact HB.out)))); have n1_ := Aside0.mk (below_step (by repeat (first | (with_reducible first | exact HB.out | apply below_alloc | apply pw_below_drewN | apply below_drew1) | exact HB.out)) hb); clear HB; have HO117 := n0_; have HB := n1_; clear n0_ n1_; (try clear hb); (try clear hb2); (try clear hk); (try clear hi); (try clear ho0); obtain ⟨Ao9, co9, eo9⟩ := Kd.V_slice HO117.out; subst eo9) | ((with_reducible refine gate_callee (f := 13) rfl ?_); refine goesL_ (some 4) rfl rfl Tryz.func13 (by kernel_rfl) rfl #[.int .i64 32, .int .i64 4096, .slice Ao9 t115.length co9] rfl (by (try simp only [List.map_toArray, List.map_cons, List.map_nil]); first | done | rfl | (simp only [List.length_drop, List.length_take]; rfl)) ?_; (with_reducible refine (impl_Feed.calls 32 4096 _ _ t115 t118 _ ?side1 ?side2 A3.out).mono ?_); (case side1 => repeat (first | exact (Kd.V_reads' HO117.out).2.2 | (with_reducible refine Kd.C_alloc ?_ _) | (with_reducible refine Kd.C_drewN ?_ _) | (with_reducible refine Kd.C_drew ?_))); (case side2 => exact (Kd.V_reads' HO117.out).2.1); rintro e w10 ⟨v119, rfl, ho0, hb⟩; refine ⟨_, rfl, ?_⟩; have n0_ := Aside0.mk (Kd.V_elder' (by (with_reducible repeat (first | apply Kd.V_alloc | apply Kd.V_drewN | apply Kd.V_drew)); exact HO117.out) (Kd.S_base ho0) hb); have n1_ := Aside0.mk (Kd.S_lower ho0 (below_size (by repeat (first | (with_reducible first | exact HB.out | apply below_alloc | apply pw_below_drewN | apply below_drew1) | exact HB.out)))); have n2_ := Aside0.mk (below_step (by repeat (first | (with_reducible first | exact HB.out | apply below_alloc | apply pw_below_drewN | apply below_drew1) | exact HB.out)) hb); clear HO117; clear HB; have HO117 := n0_; have HO120 := n1_; have HB := n2_; clear n0_ n1_ n2_; (try clear hb); (try clear hb2); (try clear hk); (try clear hi); (try clear ho0); obtain ⟨Ao11, co11, eo11⟩ := Kd.S_slice HO120.out; subst eo11; have p121 : 0 ≤ (0 : Int) := (by omega); have q121 : 0 < (t118.length : Int) := of_decide_eq_true (by first | (with_reducible assumption) | assumption); obtain ⟨ad121, A121_4, c121_4, A121_5, c121_5, e121, hx121_0, hx121_1, hx121_2, hx121_3, hx121_4, hx121_5, hl121_4, hi121_4, hl121_5, hi121_5⟩ := at_T43 (Kd.S_reads' HO120.out).2.2 0 p121 q121; cases e121; obtain ⟨ce121, hce121, hMe121, hcc121⟩ := Kd.S_get HO120.out z43 0 p121 (by first | exact q121 | exact of_decide_eq_true (by first | (with_reducible assumption) | assumption) | (have e_ := (Kd.S_reads' HO120.out).1; omega)); obtain ⟨ve121_4, ve121_5, rfl, ge121_4, ge121_5⟩ := k43_openM hMe121; have hv121_4 := hcc121 4 _ rfl; rw [add_field _ _ 4 (by omega)] at hv121_4; replace hv121_4 := Option.some.inj (hv121_4.symm.trans hx121_4); rw [hv121_4] at ge121_4; have HL121_4 := Aside0.mk (show Kd.R (Kd.int .i64) 2 _ _ _ _ ((rd_T43 t118 0).f4) from ge121_4); clear hv121_4 ge121_4; have hv121_5 := hcc121 5 _ rfl; rw [add_field _ _ 5 (by omega)] at hv121_5; replace hv121_5 := Option.some.inj (hv121_5.symm.trans hx121_5); rw [hv121_5] at ge121_5; have HL121_5 := Aside0.mk (show Kd.R (Kd.int .u8) 5 _ _ _ _ ((rd_T43 t118 0).f5) from ge121_5); clear hv121_5 ge121_5; clear hcc121 hce121; have qi121 : (0 < t118.length) = True := eq_true (by omega); (try rw [show ((0 : Int)).toNat = 0 from rfl] at hx121_0); (try rw [show 0 * 6 = 0 from rfl] at hx121_0); (try rw [Addr.add_zero'] at hx121_0); (try rw [show ((0 : Int)).toNat = 0 from rfl] at hx121_1); (try rw [show 0 * 6 = 0 from rfl] at hx121_1); (try rw [Addr.add_zero'] at hx121_1); (try rw [show ((0 : Int)).toNat = 0 from rfl] at hx121_2); (try rw [show 0 * 6 = 0 from rfl] at hx121_2); (try rw [Addr.add_zero'] at hx121_2); (try rw [show ((0 : Int)).toNat = 0 from rfl] at hx121_3); (try rw [show 0 * 6 = 0 from rfl] at hx121_3); (try rw [Addr.add_zero'] at hx121_3); (try rw [show ((0 : Int)).toNat = 0 from rfl] at hx121_4); (try rw [show 0 * 6 = 0 from rfl] at hx121_4); (try rw [Addr.add_zero'] at hx121_4); (try rw [show ((0 : Int)).toNat = 0 from rfl] at hx121_5); (try rw [show 0 * 6 = 0 from rfl] at hx121_5); (try rw [Addr.add_zero'] at hx121_5); have HR121_4 := Aside0.mk hi121_4; have HC121_4 := Aside0.mk hl121_4; clear hi121_4 hl121_4; have HR121_5 := Aside0.mk hi121_5; have HC121_5 := Aside0.mk hl121_5; clear hi121_5 hl121_5; replace p121 := eq_true p121; replace q121 := eq_true q121; have p122 : 0 ≤ (0 : Int) := (by omega); have q122 : 0 < (t118.length : Int) := of_decide_eq_true (by first | (with_reducible assumption) | assumption); obtain ⟨ad122, A122_4, c122_4, A122_5, c122_5, e122, hx122_0, hx122_1, hx122_2, hx122_3, hx122_4, hx122_5, hl122_4, hi122_4, hl122_5, hi122_5⟩ := at_T43 (Kd.S_reads' HO120.out).2.2 0 p122 q122; obtain rfl : ad121 = ad122 := (by injection e122); obtain ⟨ce122, hce122, hMe122, hcc122⟩ := Kd.S_get HO120.out z43 0 p122 (by first | exact q122 | exact of_decide_eq_true (by first | (with_reducible assumption) | assumption) | (have e_ := (Kd.S_reads' HO120.out).1; omega)); obtain ⟨ve122_4, ve122_5, rfl, ge122_4, ge122_5⟩ := k43_openM hMe122; have hv122_4 := hcc122 4 _ rfl; rw [add_field _ _ 4 (by omega)] at hv122_4; replace hv122_4 := Option.some.inj (hv122_4.symm.trans hx122_4); rw [hv122_4] at ge122_4; have HL122_4 := Aside0.mk (show Kd.R (Kd.int .i64) 2 _ _ _ _ ((rd_T43 t118 0).f4) from ge122_4); clear hv122_4 ge122_4; have hv122_5 := hcc122 5 _ rfl; rw [add_field _ _ 5 (by omega)] at hv122_5; replace hv122_5 := Option.some.inj (hv122_5.symm.trans hx122_5); rw [hv122_5] at ge122_5; have HL122_5 := Aside0.mk (show Kd.R (Kd.int .u8) 5 _ _ _ _ ((rd_T43 t118 0).f5) from ge122_5); clear hv122_5 ge122_5; clear hcc122 hce122; have qi122 : (0 < t118.length) = True := eq_true (by omega); (try rw [show ((0 : Int)).toNat = 0 from rfl] at hx122_0); (try rw [show 0 * 6 = 0 from rfl] at hx122_0); (try rw [Addr.add_zero'] at hx122_0); (try rw [show ((0 : Int)).toNat = 0 from rfl] at hx122_1); (try rw [show 0 * 6 = 0 from rfl] at hx122_1); (try rw [Addr.add_zero'] at hx122_1); (try rw [show ((0 : Int)).toNat = 0 from rfl] at hx122_2); (try rw [show 0 * 6 = 0 from rfl] at hx122_2); (try rw [Addr.add_zero'] at hx122_2); (try rw [show ((0 : Int)).toNat = 0 from rfl] at hx122_3); (try rw [show 0 * 6 = 0 from rfl] at hx122_3); (try rw [Addr.add_zero'] at hx122_3); (try rw [show ((0 : Int)).toNat = 0 from rfl] at hx122_4); (try rw [show 0 * 6 = 0 from rfl] at hx122_4); (try rw [Addr.add_zero'] at hx122_4); (try rw [show ((0 : Int)).toNat = 0 from rfl] at hx122_5); (try rw [show 0 * 6 = 0 from rfl] at hx122_5); (try rw [Addr.add_zero'] at hx122_5); have HR122_4 := Aside0.mk hi122_4; have HC122_4 := Aside0.mk hl122_4; clear hi122_4 hl122_4; have HR122_5 := Aside0.mk hi122_5; have HC122_5 := Aside0.mk hl122_5; clear hi122_5 hl122_5; replace p122 := eq_true p122; replace q122 := eq_true q122; have ea_ := Option.some.inj (hx121_4.symm.trans hx122_4); injection ea_ with ea_ en_ ec_; subst ea_; subst ec_; clear en_; have ea_ := Option.some.inj (hx121_5.symm.trans hx122_5); injection ea_ with ea_ en_ ec_; subst ea_; subst ec_; clear en_))
    go_ret
    exact ⟨by first | rfl | (simp [errW_none, errW_some] <;> rfl) | (simp [*, errW_none, errW_some] <;> rfl), by repeat (first | (with_reducible first | exact HB.out | apply below_alloc | apply pw_below_drewN | apply below_drew1) | exact HB.out)⟩
   ·rw [if_neg c6] at H
    have c6b0 : (((rd_T43 t118 0).f0) == 2) = false := beq_eq_false_iff_ne.mpr c6
    have c6b1 : (((rd_T43 t118 0).f0) != 2) = true := bne_iff_ne.mpr c6
    obtain rfl := Option.some.inj H
    go_enter Tryz.func6, Tryz.ntmps6
    go_wp2_with (first | ((with_reducible refine gate_callee (f := 19) rfl ?_); refine goesL_ (some 2) rfl rfl Tryz.func19 (by kernel_rfl) rfl #[.int .i64 0, .int .i64 3] rfl (by (try simp only [List.map_toArray, List.map_cons, List.map_nil]); first | done | rfl | (simp only [List.length_drop, List.length_take]; rfl)) ?_; (with_reducible refine (impl_MakeNumber.calls 0 3 t114 _ ?side1 A1.out).mono ?_); (case side1 => exact XTab.below HT.out (by repeat (first | (with_reducible first | exact HB.out | apply below_alloc | apply pw_below_drewN | apply below_drew1) | exact HB.out))); rintro e w12 ⟨rfl, hb⟩; refine ⟨_, rfl, ?_⟩; have n0_ := Aside0.mk (below_step (by repeat (first | (with_reducible first | exact HB.out | apply below_alloc | apply pw_below_drewN | apply below_drew1) | exact HB.out)) hb); clear HB; have HB := n0_; clear n0_; (try clear hb); (try clear hb2); (try clear hk); (try clear hi)) | ((with_reducible refine gate_dst (N := 3) rfl ?_); refine conv_ev 9 23 5 rfl rfl Tryz.underlying9 Tryz.underlying23 Tryz.underlying5 t114 rfl A2.out ?_; rintro e w13 ⟨v116, rfl, ho0, hb⟩; refine ⟨_, rfl, ?_⟩; have n0_ := Aside0.mk (Kd.V_lower (Kd.V_mono (ok' := fun k_ => True) ho0 (fun k_ hk_ => trivial)) (below_size (by repeat (first | (with_reducible first | exact HB.out | apply below_alloc | apply pw_below_drewN | apply below_drew1) | exact HB.out)))); have n1_ := Aside0.mk (below_step (by repeat (first | (with_reducible first | exact HB.out | apply below_alloc | apply pw_below_drewN | apply below_drew1) | exact HB.out)) hb); clear HB; have HO117 := n0_; have HB := n1_; clear n0_ n1_; (try clear hb); (try clear hb2); (try clear hk); (try clear hi); (try clear ho0); obtain ⟨Ao14, co14, eo14⟩ := Kd.V_slice HO117.out; subst eo14) | ((with_reducible refine gate_callee (f := 13) rfl ?_); refine goesL_ (some 4) rfl rfl Tryz.func13 (by kernel_rfl) rfl #[.int .i64 32, .int .i64 4096, .slice Ao14 t115.length co14] rfl (by (try simp only [List.map_toArray, List.map_cons, List.map_nil]); first | done | rfl | (simp only [List.length_drop, List.length_take]; rfl)) ?_; (with_reducible refine (impl_Feed.calls 32 4096 _ _ t115 t118 _ ?side1 ?side2 A3.out).mono ?_); (case side1 => repeat (first | exact (Kd.V_reads' HO117.out).2.2 | (with_reducible refine Kd.C_alloc ?_ _) | (with_reducible refine Kd.C_drewN ?_ _) | (with_reducible refine Kd.C_drew ?_))); (case side2 => exact (Kd.V_reads' HO117.out).2.1); rintro e w15 ⟨v119, rfl, ho0, hb⟩; refine ⟨_, rfl, ?_⟩; have n0_ := Aside0.mk (Kd.V_elder' (by (with_reducible repeat (first | apply Kd.V_alloc | apply Kd.V_drewN | apply Kd.V_drew)); exact HO117.out) (Kd.S_base ho0) hb); have n1_ := Aside0.mk (Kd.S_lower ho0 (below_size (by repeat (first | (with_reducible first | exact HB.out | apply below_alloc | apply pw_below_drewN | apply below_drew1) | exact HB.out)))); have n2_ := Aside0.mk (below_step (by repeat (first | (with_reducible first | exact HB.out | apply below_alloc | apply pw_below_drewN | apply below_drew1) | exact HB.out)) hb); clear HO117; clear HB; have HO117 := n0_; have HO120 := n1_; have HB := n2_; clear n0_ n1_ n2_; (try clear hb); (try clear hb2); (try clear hk); (try clear hi); (try clear ho0); obtain ⟨Ao16, co16, eo16⟩ := Kd.S_slice HO120.out; subst eo16; have p121 : 0 ≤ (0 : Int) := (by omega); have q121 : 0 < (t118.length : Int) := of_decide_eq_true (by first | (with_reducible assumption) | assumption); obtain ⟨ad121, A121_4, c121_4, A121_5, c121_5, e121, hx121_0, hx121_1, hx121_2, hx121_3, hx121_4, hx121_5, hl121_4, hi121_4, hl121_5, hi121_5⟩ := at_T43 (Kd.S_reads' HO120.out).2.2 0 p121 q121; cases e121; obtain ⟨ce121, hce121, hMe121, hcc121⟩ := Kd.S_get HO120.out z43 0 p121 (by first | exact q121 | exact of_decide_eq_true (by first | (with_reducible assumption) | assumption) | (have e_ := (Kd.S_reads' HO120.out).1; omega)); obtain ⟨ve121_4, ve121_5, rfl, ge121_4, ge121_5⟩ := k43_openM hMe121; have hv121_4 := hcc121 4 _ rfl; rw [add_field _ _ 4 (by omega)] at hv121_4; replace hv121_4 := Option.some.inj (hv121_4.symm.trans hx121_4); rw [hv121_4] at ge121_4; have HL121_4 := Aside0.mk (show Kd.R (Kd.int .i64) 2 _ _ _ _ ((rd_T43 t118 0).f4) from ge121_4); clear hv121_4 ge121_4; have hv121_5 := hcc121 5 _ rfl; rw [add_field _ _ 5 (by omega)] at hv121_5; replace hv121_5 := Option.some.inj (hv121_5.symm.trans hx121_5); rw [hv121_5] at ge121_5; have HL121_5 := Aside0.mk (show Kd.R (Kd.int .u8) 5 _ _ _ _ ((rd_T43 t118 0).f5) from ge121_5); clear hv121_5 ge121_5; clear hcc121 hce121; have qi121 : (0 < t118.length) = True := eq_true (by omega); (try rw [show ((0 : Int)).toNat = 0 from rfl] at hx121_0); (try rw [show 0 * 6 = 0 from rfl] at hx121_0); (try rw [Addr.add_zero'] at hx121_0); (try rw [show ((0 : Int)).toNat = 0 from rfl] at hx121_1); (try rw [show 0 * 6 = 0 from rfl] at hx121_1); (try rw [Addr.add_zero'] at hx121_1); (try rw [show ((0 : Int)).toNat = 0 from rfl] at hx121_2); (try rw [show 0 * 6 = 0 from rfl] at hx121_2); (try rw [Addr.add_zero'] at hx121_2); (try rw [show ((0 : Int)).toNat = 0 from rfl] at hx121_3); (try rw [show 0 * 6 = 0 from rfl] at hx121_3); (try rw [Addr.add_zero'] at hx121_3); (try rw [show ((0 : Int)).toNat = 0 from rfl] at hx121_4); (try rw [show 0 * 6 = 0 from rfl] at hx121_4); (try rw [Addr.add_zero'] at hx121_4); (try rw [show ((0 : Int)).toNat = 0 from rfl] at hx121_5); (try rw [show 0 * 6 = 0 from rfl] at hx121_5); (try rw [Addr.add_zero'] at hx121_5); have HR121_4 := Aside0.mk hi121_4; have HC121_4 := Aside0.mk hl121_4; clear hi121_4 hl121_4; have HR121_5 := Aside0.mk hi121_5; have HC121_5 := Aside0.mk hl121_5; clear hi121_5 hl121_5; replace p121 := eq_true p121; replace q121 := eq_true q121))
    go_ret
    exact ⟨by first | rfl | (simp [errW_none, errW_some] <;> rfl) | (simp [*, errW_none, errW_some] <;> rfl), by repeat (first | (with_reducible first | exact HB.out | apply below_alloc | apply pw_below_drewN | apply below_drew1) | exact HB.out)⟩
  ·rw [if_neg c5] at H
   exact absurd H (by simp)
 ·rw [if_neg c4] at H
  have c4b0 : ((t118.length : Int) == 1) = false := beq_eq_false_iff_ne.mpr c4
  have c4b1 : ((t118.length : Int) != 1) = true := bne_iff_ne.mpr c4
  obtain rfl := Option.some.inj H
  go_enter Tryz.func6, Tryz.ntmps6
  go_wp2_with (first | ((with_reducible refine gate_callee (f := 19) rfl ?_); refine goesL_ (some 2) rfl rfl Tryz.func19 (by kernel_rfl) rfl #[.int .i64 0, .int .i64 3] rfl (by (try simp only [List.map_toArray, List.map_cons, List.map_nil]); first | done | rfl | (simp only [List.length_drop, List.length_take]; rfl)) ?_; (with_reducible refine (impl_MakeNumber.calls 0 3 t114 _ ?side1 A1.out).mono ?_); (case side1 => exact XTab.below HT.out (by repeat (first | (with_reducible first | exact HB.out | apply below_alloc | apply pw_below_drewN | apply below_drew1) | exact HB.out))); rintro e w17 ⟨rfl, hb⟩; refine ⟨_, rfl, ?_⟩; have n0_ := Aside0.mk (below_step (by repeat (first | (with_reducible first | exact HB.out | apply below_alloc | apply pw_below_drewN | apply below_drew1) | exact HB.out)) hb); clear HB; have HB := n0_; clear n0_; (try clear hb); (try clear hb2); (try clear hk); (try clear hi)) | ((with_reducible refine gate_dst (N := 3) rfl ?_); refine conv_ev 9 23 5 rfl rfl Tryz.underlying9 Tryz.underlying23 Tryz.underlying5 t114 rfl A2.out ?_; rintro e w18 ⟨v116, rfl, ho0, hb⟩; refine ⟨_, rfl, ?_⟩; have n0_ := Aside0.mk (Kd.V_lower (Kd.V_mono (ok' := fun k_ => True) ho0 (fun k_ hk_ => trivial)) (below_size (by repeat (first | (with_reducible first | exact HB.out | apply below_alloc | apply pw_below_drewN | apply below_drew1) | exact HB.out)))); have n1_ := Aside0.mk (below_step (by repeat (first | (with_reducible first | exact HB.out | apply below_alloc | apply pw_below_drewN | apply below_drew1) | exact HB.out)) hb); clear HB; have HO117 := n0_; have HB := n1_; clear n0_ n1_; (try clear hb); (try clear hb2); (try clear hk); (try clear hi); (try clear ho0); obtain ⟨Ao19, co19, eo19⟩ := Kd.V_slice HO117.out; subst eo19) | ((with_reducible refine gate_callee (f := 13) rfl ?_); refine goesL_ (some 4) rfl rfl Tryz.func13 (by kernel_rfl) rfl #[.int .i64 32, .int .i64 4096, .slice Ao19 t115.length co19] rfl (by (try simp only [List.map_toArray, List.map_cons, List.map_nil]); first | done | rfl | (simp only [List.length_drop, List.length_take]; rfl)) ?_; (with_reducible refine (impl_Feed.calls 32 4096 _ _ t115 t118 _ ?side1 ?side2 A3.out).mono ?_); (case side1 => repeat (first | exact (Kd.V_reads' HO117.out).2.2 | (with_reducible refine Kd.C_alloc ?_ _) | (with_reducible refine Kd.C_drewN ?_ _) | (with_reducible refine Kd.C_drew ?_))); (case side2 => exact (Kd.V_reads' HO117.out).2.1); rintro e w20 ⟨v119, rfl, ho0, hb⟩; refine ⟨_, rfl, ?_⟩; have n0_ := Aside0.mk (Kd.V_elder' (by (with_reducible repeat (first | apply Kd.V_alloc | apply Kd.V_drewN | apply Kd.V_drew)); exact HO117.out) (Kd.S_base ho0) hb); have n1_ := Aside0.mk (Kd.S_lower ho0 (below_size (by repeat (first | (with_reducible first | exact HB.out | apply below_alloc | apply pw_below_drewN | apply below_drew1) | exact HB.out)))); have n2_ := Aside0.mk (below_step (by repeat (first | (with_reducible first | exact HB.out | apply below_alloc | apply pw_below_drewN | apply below_drew1) | exact HB.out)) hb); clear HO117; clear HB; have HO117 := n0_; have HO120 := n1_; have HB := n2_; clear n0_ n1_ n2_; (try clear hb); (try clear hb2); (try clear hk); (try clear hi); (try clear ho0); obtain ⟨Ao21, co21, eo21⟩ := Kd.S_slice HO120.out; subst eo21))
  go_ret
  exact ⟨by first | rfl | (simp [errW_none, errW_some] <;> rfl) | (simp [*, errW_none, errW_some] <;> rfl), by repeat (first | (with_reducible first | exact HB.out | apply below_alloc | apply pw_below_drewN | apply below_drew1) | exact HB.out)⟩
/-! ### laws_drawSize: function 7 -/
def laws_drawSize.f (a0 : Int) : Option (Int × Int) := some (wrap64 ((wrap64 (Int.tmod a0 16)) + 2), (((Int.tdiv a0 16) % 256) % 8) + 2)
set_option maxHeartbeats 8000000 in
set_option maxRecDepth 100000 in
theorem laws_drawSize.calls (a0 : Int) (r1 : Int) (r2 : Int) (w : World) (h : laws_drawSize.f a0 = some (r1, r2)) :
  Calls Tryz.prog 7 #[.int .u8 a0] w fun e w' => e = .returned (.tuple #[.int .i64 r1, .int .i64 r2]) ∧ Drawn0 w w' := by
 have H : (some (wrap64 ((wrap64 (Int.tmod a0 16)) + 2), (((Int.tdiv a0 16) % 256) % 8) + 2)) = some (r1, r2) := h
 clear h
 simp only [Option.some.injEq, Prod.mk.injEq] at H
 obtain ⟨rfl, rfl⟩ := H
 go_enter Tryz.func7, Tryz.ntmps7
 go_wp2
 go_ret2
 exact ⟨by first | rfl | (simp; done) | (simp [*]; done), by repeat (first | exact Drawn0.refl _ | apply Drawn0.step)⟩
end Go.Proofs.YteebhoehflgfoaaGreatDoor.Y
end
section
namespace Go.Proofs.YteebhoehflgfoaaGreatDoor.Y
open Go.RowKit Go.Proofs.YteebhoehflgfoaaGreatDoorW.PrintWords Go.Proofs.YteebhoehflgfoaaGreatDoorW.PrintLast Go.Proofs.YteebhoehflgfoaaGreatDoorW.PrintMore
set_option linter.unusedSimpArgs false
set_option linter.unusedVariables false
/-- A screen's size. -/
theorem size_f2 (a : Int) (h0 : 0 ≤ a) (h1 : a ≤ 255) : ∃ Wd H : Nat, laws_drawSize.f a = some ((Wd : Int), (H : Int)) ∧ (1 ≤ Wd ∧ Wd ≤ 99) ∧ 1 ≤ H ∧ H ≤ 99 := by
 have e1 : Int.tmod a 16 = a % 16 := Int.tmod_eq_emod_of_nonneg h0
 have e2 : Int.tdiv a 16 = a / 16 := Int.tdiv_eq_ediv_of_nonneg h0
 refine ⟨(a % 16 + 2).toNat, ((a / 16) % 256 % 8 + 2).toNat, ?_, by omega, by omega, by omega⟩
 unfold laws_drawSize.f
 rw [e1, e2, wrap64_of (a % 16) (by omega) (by omega), wrap64_of _ (by omega) (by omega), Int.toNat_of_nonneg (by omega), Int.toNat_of_nonneg (by omega)]
theorem size_f (a : Int) (h0 : 0 ≤ a) (h1 : a ≤ 255) : ∃ Wd H : Nat, laws_drawSize.f a = some ((Wd : Int), (H : Int)) ∧ (1 ≤ Wd ∧ Wd ≤ 1000) ∧ 1 ≤ H ∧ H ≤ 1000 := by
 obtain ⟨Wd, H, h2, h3, h4⟩ := size_f2 a h0 h1
 exact ⟨Wd, H, h2, by omega, by omega⟩
/-- A right plan, fed: the events that are told, and what they are read as. -/
theorem plan_fed (l : List Op) (h : RightPlan l) : ∃ (T : List Nat) (evs : List X.Ev), laws_drawText.f 400 l = some (ints T) ∧ T.length ≤ 2000 ∧ X.run .gr T = some (.gr, evs) ∧ evs.length ≤ 400 ∧ impl_Feed.f 32 4096 (ints T) = some (evs.map X.toS) ∧
  ∃ q : List (Op × List X.Ev), q.map (·.1) = l ∧ (q.map (·.2)).flatten = evs ∧ (∀ p ∈ q, Good p) ∧ Apart false l := by
 obtain ⟨ps, T, p0, p1, p2, p3, p4, p5, p6⟩ := plan_run l h
 obtain ⟨q, q1, q2, q3⟩ := plan_good l h ps p0
 exact ⟨T, _, p1 400 (Nat.le_refl _), p3, p4, p6, feed_l T (by omega) p4, q, q1, by rw [q2], q3, apart_of l h.2.1⟩
theorem read_fed (q : List (Op × List X.Ev)) (hg : ∀ p ∈ q, Good p) (ha : Apart false (q.map (·.1))) (hf : ((q.map (·.2)).flatten).length ≤ 1000000) : spec_DrawRead.f ((((q.map (·.2)).flatten).map X.toS).map cv) = some (q.map (·.1), true) := by
 rw [List.map_map, show (cv ∘ X.toS) = evS from rfl]
 exact good_read q hg ha hf
/-- A right plan, fed and read: it is the plan. -/
theorem plan_all (l : List Op) (h : RightPlan l) : ∃ tl el, laws_drawText.f 400 l = some tl ∧ impl_Feed.f 32 4096 tl = some el ∧ el.length ≤ 400 ∧ spec_DrawRead.f (el.map cv) = some (l, true) := by
 obtain ⟨T, evs, p1, p2, p3, p4, p5, q, q1, q2, q3, q4⟩ := plan_fed l h
 have hread := read_fed q q3 (by rw [q1]; exact q4) (by rw [q2]; omega)
 rw [q1, q2] at hread
 exact ⟨_, _, p1, p5, by rw [List.length_map]; exact p4, hread⟩
/-- An operation that is no text: its text and its event. -/
theorem op_piece (o : Op) (h : Right o) (h60 : o.f0 ≠ 60) : ∃ t e, (∀ k, 200 ≤ k → laws_drawMade.f k o.f0 o.f1 o.f2 o.f3 o.f4 = some t) ∧ One t e ∧ Good (o, [e]) := by
 obtain ⟨t, evs, m1, m2⟩ := made o h 200 (Nat.le_refl _)
 rcases m2 with ⟨h1, _⟩ | ⟨_, e, rfl, he⟩
 ·exact absurd h1 h60
 ·exact ⟨t, e, fun k hk => lift (laws_drawMade.mono _ _ _ _ _) hk m1, he, Or.inr ⟨h60, e, rfl, made_reads o h 200 (Nat.le_refl _) m1 he h60⟩⟩
theorem apart_any : ∀ (m : List Op) (b : Bool), Apart true m → Apart b m
 | [], _, _ => trivial
 | o :: r, b, h => ⟨fun hh => h.1 ⟨rfl, hh.2⟩, h.2⟩
theorem apart_snoc : ∀ (l : List Op) (b : Bool) (m : List Op), Apart b l → Apart true m → Apart b (l ++ m)
 | [], b, m, _, hm => apart_any m b hm
 | o :: r, b, m, h, hm => ⟨h.1, apart_snoc r _ m h.2 hm⟩
theorem apart_cons (o : Op) (l : List Op) (b : Bool) (h : o.f0 ≠ 60) (hl : Apart false l) : Apart b (o :: l) := ⟨fun hh => h hh.2, by rw [decide_eq_false h]; exact hl⟩
theorem apart_last : ∀ (l : List Op) (b : Bool) (m : List Op), Apart b l → (∀ o, l.getLast? = some o → o.f0 ≠ 60) → (l = [] → b = false) → Apart false m → Apart b (l ++ m)
 | [], b, m, _, _, hb, hm => by rw [hb rfl]; exact hm
 | [o], b, m, h, hl, _, hm => ⟨h.1, by rw [decide_eq_false (hl o rfl)]; exact hm⟩
 | o :: p :: r, b, m, h, hl, _, hm => ⟨h.1, apart_last (p :: r) _ m h.2 (fun x hx => hl x (by rw [List.getLast?_cons_cons]; exact hx)) (fun e => by cases e) hm⟩
/-- The texts that the law puts between. -/
def noiseT : Nat → ByteArray
 | 0 => ⟨#[27, 91, 49, 59, 52, 109]⟩
 | 1 => ⟨#[27, 91, 48, 109]⟩
 | 2 => ⟨#[27, 93, 50, 59, 116, 105, 116, 108, 101, 7]⟩
 | 3 => ⟨#[27, 93, 49, 59, 105, 99, 111, 110, 7]⟩
 | 4 => ⟨#[27, 91, 63, 50, 53, 104]⟩
 | 5 => ⟨#[27, 91, 52, 108]⟩
 | 6 => ⟨#[27, 93, 56, 59, 59, 104, 116, 116, 112, 58, 47, 47, 97, 46, 111, 114, 103, 7]⟩
 | _ => ⟨#[27, 93, 56, 59, 59, 7]⟩
/-- What the law keeps of events: none of a system command, none of a mode. -/
def kept (k c : Int) : Bool := !(k == 5) && !(k == 2 && (Go.bits .and .i64 c 127 == 104 || Go.bits .and .i64 c 127 == 108))
theorem kept_finals : (finalsL.all fun p => kept 2 p.1) = true := by kernel_rfl
theorem kept_two : kept 2 72 = true ∧ kept 2 102 = true ∧ kept 2 114 = true ∧ kept 2 109 = true := ⟨by kernel_rfl, by kernel_rfl, by kernel_rfl, by kernel_rfl⟩
theorem bytesOf_app (s t : ByteArray) : bytesOf (s ++ t) = bytesOf s ++ bytesOf t := by simp [bytesOf, ByteArray.data_append]
theorem noise_size (k : Nat) : (noiseT k).size ≤ 100 := by
 unfold noiseT
 split <;> decide
theorem style_good (l : List Int) (h : Attrs l) (t : ByteArray) (ht : laws_drawMade.f 200 52 0 0 ⟨#[]⟩ l = some t) : ∃ e, X.run .gr (X.nb t) = some (.gr, [e]) ∧ ∃ o : Op, o.f0 = 52 ∧ Good (o, [e]) ∧ Does o := by
 have hr : Right ⟨52, 0, 0, ⟨#[]⟩, l⟩ := Or.inr (Or.inr (Or.inr (Or.inr (Or.inl ⟨rfl, by rw [ByteArray.toList_eq], rfl, rfl, h⟩))))
 obtain ⟨t2, e, h1, h2, h3⟩ := op_piece _ hr (by show (52 : Int) ≠ 60; decide)
 have h4 : some t2 = some t := (h1 200 (Nat.le_refl _)).symm.trans ht
 cases h4
 exact ⟨e, h2.run, _, rfl, h3, right_does hr⟩
theorem noise_run (k : Nat) (hk : k < 8) : ∃ e, X.run .gr (X.nb (noiseT k)) = some (.gr, [e]) ∧ ((∃ o : Op, o.f0 = 52 ∧ Good (o, [e]) ∧ Does o) ∨ kept e.kind e.cmd = false) := by
 match k, hk with
 | 0, _ =>
  obtain ⟨e, h1, h2⟩ := style_good [1, 4] ⟨by intro n hn; unfold AttrOk; simp at hn; omega, by decide, by decide⟩ (noiseT 0) (by kernel_rfl)
  exact ⟨e, h1, Or.inl h2⟩
 | 1, _ =>
  obtain ⟨e, h1, h2⟩ := style_good [0] ⟨by intro n hn; unfold AttrOk; simp at hn; omega, by decide, by decide⟩ (noiseT 1) (by kernel_rfl)
  exact ⟨e, h1, Or.inl h2⟩
 | 2, _ => exact ⟨X.evOsc 2 [50, 59, 116, 105, 116, 108, 101], by kernel_rfl, Or.inr (by kernel_rfl)⟩
 | 3, _ => exact ⟨X.evOsc 1 [49, 59, 105, 99, 111, 110], by kernel_rfl, Or.inr (by kernel_rfl)⟩
 | 4, _ => exact ⟨X.evCsi 16232 [25], by kernel_rfl, Or.inr (by kernel_rfl)⟩
 | 5, _ => exact ⟨X.evCsi 108 [4], by kernel_rfl, Or.inr (by kernel_rfl)⟩
 | 6, _ => exact ⟨X.evOsc 8 [56, 59, 59, 104, 116, 116, 112, 58, 47, 47, 97, 46, 111, 114, 103], by kernel_rfl, Or.inr (by kernel_rfl)⟩
 | 7, _ => exact ⟨X.evOsc 8 [56, 59, 59], by kernel_rfl, Or.inr (by kernel_rfl)⟩
 | n + 8, h => exact absurd h (by omega)
theorem cmd_known (c : Int) (ps : List Int) (x : Int × Int × Int × ByteArray × List Int × Bool) (h2 : spec_drawControl.f c ps = some x) : (∃ k, (c, k) ∈ finalsL) ∨ c = 72 ∨ c = 102 ∨ c = 114 ∨ c = 109 := by
 unfold spec_drawControl.f at h2
 cases hf : finalOf c with
 | some k => exact Or.inl ⟨k, finalOf_mem hf⟩
 | none =>
  rw [hf] at h2
  simp only [] at h2
  obtain ⟨a, _, h2⟩ := Option.bind_eq_some_iff.1 h2
  obtain ⟨b, _, h2⟩ := Option.bind_eq_some_iff.1 h2
  refine Or.inr ?_
  split at h2
  ·rename_i hc; exact Or.inl hc
  split at h2
  ·rename_i hc; exact Or.inr (Or.inl hc)
  split at h2
  ·rename_i hc; exact Or.inr (Or.inr (Or.inl hc))
  split at h2
  ·rename_i hc; exact Or.inr (Or.inr (Or.inr hc.1))
  ·cases h2
theorem kept_mem (c k : Int) (h : (c, k) ∈ finalsL) : kept 2 c = true := by
 have h2 := kept_finals
 rw [List.all_eq_true] at h2
 exact h2 (c, k) h
theorem kept_reads {e : X.Ev} {o : Op} (h : ReadsAs e o) : kept e.kind e.cmd = true := by
 rcases h with ⟨h1, _⟩ | ⟨h1, h2⟩ | ⟨h1, _⟩
 ·rw [h1]; rfl
 ·rw [h1]
  rcases cmd_known _ _ _ h2 with ⟨k, hk⟩ | hc | hc | hc | hc
  ·exact kept_mem _ k hk
  ·rw [hc]; exact kept_two.1
  ·rw [hc]; exact kept_two.2.1
  ·rw [hc]; exact kept_two.2.2.1
  ·rw [hc]; exact kept_two.2.2.2
 ·rw [h1]; rfl
theorem kept_good {p : Op × List X.Ev} (h : Good p) : ∀ e ∈ p.2, kept e.kind e.cmd = true := by
 rcases h with ⟨_, h2, _⟩ | ⟨_, e, h2, h3⟩
 ·intro e he
  rw [h2] at he
  obtain ⟨b, _, rfl⟩ := List.mem_map.1 he
  rfl
 ·intro x hx
  rw [h2] at hx
  rw [List.mem_singleton.1 hx]
  exact kept_reads h3
theorem keep_all {evs : List X.Ev} (h : ∀ e ∈ evs, kept e.kind e.cmd = true) : evs.filter (fun e => kept e.kind e.cmd) = evs := List.filter_eq_self.2 h
/-- A text of z pieces, all operations of m among them, some styles between, and what is not kept. -/
def Noisy (m : List Op) (s : ByteArray) (z : Nat) : Prop := ∃ (q : List (Op × List X.Ev)) (evs : List X.Ev), s.size ≤ 100 * z ∧ X.run .gr (X.nb s) = some (.gr, evs) ∧ evs.length ≤ 20 * z ∧
 evs.filter (fun e => kept e.kind e.cmd) = (q.map (·.2)).flatten ∧ (∀ p ∈ q, Good p ∧ Does p.1) ∧ q.length ≤ z ∧ Apart false (q.map (·.1)) ∧
 (∀ o, (q.map (·.1)).getLast? = some o → o.f0 = 60 → ∃ o', m.getLast? = some o' ∧ o'.f0 = 60) ∧ noStyle ((q.map (·.1)).map po) = noStyle (m.map po)
theorem noisy_nil : Noisy [] ⟨#[]⟩ 0 := ⟨[], [], by decide, rfl, by simp, rfl, by simp, by simp, trivial, by simp, rfl⟩
theorem noisy_size {m : List Op} {s : ByteArray} {z : Nat} (h : Noisy m s z) : s.size ≤ 100 * z := by
 obtain ⟨q, evs, h1, _⟩ := h
 exact h1
theorem noisy_mono {m : List Op} {s : ByteArray} {z y : Nat} (h : Noisy m s z) (hz : z ≤ y) : Noisy m s y := by
 obtain ⟨q, evs, h1, h2, h3, h4, h5, h6, h7⟩ := h
 exact ⟨q, evs, by omega, h2, by omega, h4, h5, by omega, h7⟩
theorem noStyle_append (a b : List PO) : noStyle (a ++ b) = noStyle a ++ noStyle b := List.filter_append ..
theorem noisy_noise {m : List Op} {s : ByteArray} {z : Nat} (h : Noisy m s z) (k : Nat) (hk : k < 8) : Noisy m (s ++ noiseT k) (z + 1) := by
 obtain ⟨q, evs, h1, h2, h3, h4, h5, h6, h7, h8, h9⟩ := h
 obtain ⟨e, r1, r2⟩ := noise_run k hk
 have hsz := noise_size k
 have hrun : X.run .gr (X.nb (s ++ noiseT k)) = some (.gr, evs ++ [e]) := by rw [X.nb_append]; exact X.run_of h2 r1
 rcases r2 with ⟨o, o1, o2, o3⟩ | r2
 ·refine ⟨q ++ [(o, [e])], evs ++ [e], by rw [ByteArray.size_append]; omega, hrun, by simp; omega, ?_, ?_, by simp; omega, ?_, ?_, ?_⟩
  ·rw [List.filter_append, h4, keep_all (kept_good o2)]
   simp
  ·intro p hp
   rcases List.mem_append.1 hp with hp | hp
   ·exact h5 p hp
   ·rw [List.mem_singleton.1 hp]; exact ⟨o2, o3⟩
  ·rw [List.map_append]
   exact apart_snoc _ _ _ h7 (apart_cons o [] true (by omega) trivial)
  ·intro x hx h60
   rw [List.map_append] at hx
   simp at hx
   subst hx
   omega
  ·rw [List.map_append, List.map_append, noStyle_append, h9]
   have : noStyle ([po o]) = [] := by
    unfold noStyle
    rw [List.filter_cons_of_neg (by simp [po, o1])]
    rfl
   show noStyle (m.map po) ++ noStyle [po o] = _
   rw [this, List.append_nil]
 ·refine ⟨q, evs ++ [e], by rw [ByteArray.size_append]; omega, hrun, by simp; omega, ?_, h5, by omega, h7, h8, h9⟩
  rw [List.filter_append, h4, List.filter_cons_of_neg (by simp [r2])]
  simp
theorem noisy_op {m : List Op} {s : ByteArray} {z : Nat} (h : Noisy m s z) (o : Op) (t : ByteArray) (ev : List X.Ev) (ht : t.size ≤ 100) (hr : X.run .gr (X.nb t) = some (.gr, ev)) (he : ev.length ≤ 20) (hg : Good (o, ev)) (hd : Does o)
  (hl : o.f0 = 60 → ∀ o', m.getLast? = some o' → o'.f0 ≠ 60) : Noisy (m ++ [o]) (s ++ t) (z + 1) := by
 obtain ⟨q, evs, h1, h2, h3, h4, h5, h6, h7, h8, h9⟩ := h
 have hrun : X.run .gr (X.nb (s ++ t)) = some (.gr, evs ++ ev) := by rw [X.nb_append]; exact X.run_of h2 hr
 refine ⟨q ++ [(o, ev)], evs ++ ev, by rw [ByteArray.size_append]; omega, hrun, by rw [List.length_append]; omega, ?_, ?_, by simp; omega, ?_, ?_, ?_⟩
 ·rw [List.filter_append, h4, keep_all (kept_good hg)]
  simp
 ·intro p hp
  rcases List.mem_append.1 hp with hp | hp
  ·exact h5 p hp
  ·rw [List.mem_singleton.1 hp]; exact ⟨hg, hd⟩
 ·rw [List.map_append]
  by_cases c : o.f0 = 60
  ·refine apart_last _ _ _ h7 (fun x hx h60 => ?_) (fun _ => rfl) ⟨fun hh => absurd hh.1 (by simp), trivial⟩
   obtain ⟨o', g1, g2⟩ := h8 x hx h60
   exact hl c o' g1 g2
  ·exact apart_snoc _ _ _ h7 (apart_cons o [] true c trivial)
 ·intro x hx h60
  rw [List.map_append] at hx
  simp at hx
  subst hx
  exact ⟨o, by simp, h60⟩
 ·rw [List.map_append, List.map_append, List.map_append, noStyle_append, noStyle_append, h9]
  rfl
/-- A right operation: its text, and what this runs to. -/
theorem right_piece (o : Op) (h : Right o) : ∃ t ev, (∀ k, 200 ≤ k → laws_drawMade.f k o.f0 o.f1 o.f2 o.f3 o.f4 = some t) ∧ t.size ≤ 100 ∧ X.run .gr (X.nb t) = some (.gr, ev) ∧ ev.length ≤ 20 ∧ Good (o, ev) := by
 obtain ⟨t, ev, m1, m2⟩ := made o h 200 (Nat.le_refl _)
 refine ⟨t, ev, fun k hk => lift (laws_drawMade.mono _ _ _ _ _) hk m1, (madeAs_size m2).1, madeAs_run m2, madeAs_few m2, ?_⟩
 rcases m2 with ⟨q1, q2, q3, q4⟩ | ⟨q1, e, q2, q3⟩
 ·exact Or.inl ⟨right_text h q1, q3, q4⟩
 ·exact Or.inr ⟨q1, e, q2, made_reads o h 200 (Nat.le_refl _) m1 q3 q1⟩
theorem noisy_next {l : List Op} (hr : RightPlan l) (i : Nat) (hi : i < l.length) {s : ByteArray} {z : Nat} (h : Noisy (l.take i) s z) :
  ∃ t, laws_drawMade.f 200 l[i].f0 l[i].f1 l[i].f2 l[i].f3 l[i].f4 = some t ∧ t.size ≤ 100 ∧ Noisy (l.take (i + 1)) (s ++ t) (z + 1) := by
 have ho := hr.1 _ (List.getElem_mem hi)
 obtain ⟨t, ev, h1, h2, h3, h4, h5⟩ := right_piece l[i] ho
 refine ⟨t, h1 200 (Nat.le_refl _), h2, ?_⟩
 rw [List.take_succ_eq_append_getElem hi]
 refine noisy_op h l[i] t ev h2 h3 h4 h5 (right_does ho) (fun h60 o' ho' h60' => ?_)
 rw [List.getLast?_eq_getElem?, List.length_take, Nat.min_eq_left (by omega)] at ho'
 by_cases h0 : i = 0
 ·subst h0
  simp at ho'
 ·rw [List.getElem?_take, if_pos (by omega), List.getElem?_eq_getElem (by omega)] at ho'
  have ho' := Option.some.inj ho'
  exact hr.2.1 i (by omega) hi ⟨h60, by rw [ho']; exact h60'⟩
/-- Fed, and what is not kept left out: it is read, and played it leaves the plan's characters and cursor. -/
theorem noisy_end {l : List Op} {s : ByteArray} {z : Nat} (h : Noisy l s z) (hz : z ≤ 40) : ∃ (el : List S43) (ops : List Op), impl_Feed.f 32 4096 (bytesOf s) = some el ∧ el.length ≤ 1000 ∧
  spec_DrawRead.f ((el.filter (fun e => kept e.f0 e.f3)).map cv) = some (ops, true) ∧ (∀ o ∈ ops, Does o) ∧ ops.length ≤ 100 ∧ ∀ s0 : Scr, (s0.play attrA (ops.map po)).strip = (s0.play attrA (l.map po)).strip := by
 obtain ⟨q, evs, h1, h2, h3, h4, h5, h6, h7, h8, h9⟩ := h
 refine ⟨evs.map X.toS, q.map (·.1), feed_f s (by omega) h2, by rw [List.length_map]; omega, ?_, ?_, by rw [List.length_map]; omega, fun s0 => noise_law attrA s0 _ _ h9⟩
 ·rw [List.filter_map, show ((fun e : S43 => kept e.f0 e.f3) ∘ X.toS) = (fun e : X.Ev => kept e.kind e.cmd) from rfl, h4]
  have hlen : ((q.map (·.2)).flatten).length ≤ 20 * z := by rw [← h4]; exact Nat.le_trans (List.length_filter_le _ _) h3
  exact read_fed q (fun p hp => (h5 p hp).1) h7 (by omega)
 ·intro o ho
  obtain ⟨p, hp, rfl⟩ := List.mem_map.1 ho
  exact (h5 p hp).2
end Go.Proofs.YteebhoehflgfoaaGreatDoor.Y
end
section
namespace Go.Proofs.YteebhoehflgfoaaGreatDoor.Y
open Go.RowKit Go.Proofs.YteebhoehflgfoaaGreatDoorW.PrintWords Go.Proofs.YteebhoehflgfoaaGreatDoorW.PrintLast Go.Proofs.YteebhoehflgfoaaGreatDoorW.PrintMore
set_option linter.unusedSimpArgs false
set_option linter.unusedVariables false
set_option maxRecDepth 100000
set_option maxHeartbeats 8000000
theorem strip_eq {s t : Scr} (h : s.strip = t.strip) : t.w = s.w ∧ t.h = s.h ∧ t.pen.x = s.pen.x ∧ t.pen.y = s.pen.y ∧ s.rows.map plainG = t.rows.map plainG := by
 unfold Scr.strip at h
 injection h with h1 h2 h3 h4 h5 h6 h7 h8
 injection h4 with g1 g2 g3
 exact ⟨h1.symm, h2.symm, g1.symm, g2.symm, h3⟩
theorem plain_at {a b : List (List Gl)} (h : a.map plainG = b.map plainG) (i : Nat) (hi : i < a.length) : ∃ r, b[i]? = some r ∧ plainG a[i] = plainG r := by
 have hl : a.length = b.length := by have := congrArg List.length h; simpa using this
 have hb : i < b.length := by omega
 refine ⟨b[i], List.getElem?_eq_getElem hb, ?_⟩
 have := congrArg (fun l => l[i]?) h
 simpa [List.getElem?_map, List.getElem?_eq_getElem hi, List.getElem?_eq_getElem hb] using this
theorem char_at {r q : List Gl} (h : plainG r = plainG q) (i : Nat) (hi : i < r.length) : ∃ g, q[i]? = some g ∧ g.1 = r[i].1 := by
 have hl : r.length = q.length := by rw [← plain_len r, ← plain_len q, h]
 have hb : i < q.length := by omega
 refine ⟨q[i], List.getElem?_eq_getElem hb, ?_⟩
 unfold plainG at h
 have := congrArg (fun l => (l[i]?).map Prod.fst) h
 simpa [List.getElem?_map, List.getElem?_eq_getElem hi, List.getElem?_eq_getElem hb, eq_comm] using this
theorem same_plain {w : World} {B g T c B2 g2 T2 c2 : Nat} {bs bs2 : List Nat} {s t : Scr} (h1 : AtX w B g T c bs s) (h2 : AtX w B2 g2 T2 c2 bs2 t) (hf : Fine s) (hst : s.strip = t.strip) :
  Calls Tryz.prog 16 #[.pointer (some ⟨g, 0, none⟩), .pointer (some ⟨g2, 0, none⟩), .bool true] w fun e w' => e = .returned (.bool true) ∧ Below w.heap.size w w' := by
 obtain ⟨ew, eh, ex, ey, er⟩ := strip_eq hst
 have HI := Lib.hid (And.intro h1 (And.intro h2 hf))
 have HE := Lib.hid (And.intro ew (And.intro eh er))
 have a0 : w.cell? ⟨g, 0, none⟩ = some (.int .i64 s.w) := h1.cell 0
 have a1 : w.cell? ⟨g, 1, none⟩ = some (.int .i64 s.h) := h1.cell 1
 have a3 : w.cell? ⟨g, 3, none⟩ = some (.int .i64 s.pen.x) := h1.cell 3
 have a4 : w.cell? ⟨g, 4, none⟩ = some (.int .i64 s.pen.y) := h1.cell 4
 have b0 : w.cell? ⟨g2, 0, none⟩ = some (.int .i64 s.w) := by have := h2.cell 0; rw [← ew]; exact this
 have b1 : w.cell? ⟨g2, 1, none⟩ = some (.int .i64 s.h) := by have := h2.cell 1; rw [← eh]; exact this
 have b3 : w.cell? ⟨g2, 3, none⟩ = some (.int .i64 s.pen.x) := by have := h2.cell 3; rw [← ex]; exact this
 have b4 : w.cell? ⟨g2, 4, none⟩ = some (.int .i64 s.pen.y) := by have := h2.cell 4; rw [← ey]; exact this
 clear h1 h2 hf hst ew eh ex ey er
 go_enter Tryz.func16, Tryz.ntmps16
 go_wp2_with fail
 go_quiet (fail)
 have hqb := pw_below_drewN (Below.refl w.heap.size w) nq
 obtain ⟨W, hW⟩ : ∃ W, W = w.drewN nq := ⟨_, rfl⟩
 rw [← hW] at hqb ⊢
 have HJ := Lib.hid (show AtX W B g T c bs s ∧ AtX W B2 g2 T2 c2 bs2 t ∧ Fine s ∧ Below w.heap.size w W from ⟨HI.out.1.below hqb, HI.out.2.1.below hqb, HI.out.2.2, hqb⟩)
 clear hW hqb a0 a1 a3 a4 b0 b1 b3 b4
 have a2 : W.cell? ⟨g, 2, none⟩ = some (.slice (some ⟨T, 0, none⟩) s.h c) := HJ.out.1.cell 2
 go_wp2_with fail
 clear a2
 go_loopg [79] s.h (fun kq v79 w' => ∃ i : Nat, v79 = .int .i64 (i : Int) ∧ i + kq = s.h ∧ Hid (Below W.heap.size W w'))
 case atStart => exact ⟨0, rfl, by omega, Below.refl _ _⟩
 case round =>
  obtain ⟨i, rfl, hk, hA⟩ := hrel
  by_cases hi : i < s.h
  ·have d3 : (i : Int) < (s.h : Int) := by omega
   have i0 : (0 : Int) ≤ (i : Int) := by omega
   have e1 : IntKind.i64.wrap ((i : Int) + 1) = ((i + 1 : Nat) : Int) := by have := HJ.out.2.2.1.h1; rw [wrapI _ (by omega) (by omega)]; omega
   have hir : i < s.rows.length := by rw [HJ.out.2.2.1.rl]; exact hi
   obtain ⟨b, hb, z1, z2, hT⟩ := (HJ.out.1.below hA.out).get hir
   obtain ⟨q, hq, hpq⟩ := plain_at HE.out.2.2 i hir
   obtain ⟨hiq, hqe⟩ := List.getElem?_eq_some_iff.1 hq
   obtain ⟨b', hb', z3, z4, z5⟩ := (HJ.out.2.1.below hA.out).get hiq
   have hlen := HJ.out.2.2.1.rw _ (List.getElem_mem hir)
   have hrl : s.rows[i]? = some s.rows[i] := List.getElem?_eq_getElem hir
   clear z1 z2 z3 z4 z5
   generalize s.rows[i] = r at hlen hrl hpq
   have HR := Lib.hid (And.intro hb (And.intro hb' (And.intro hlen (And.intro hrl (And.intro hq (And.intro hpq hiq))))))
   have hT' : wr.cell? ⟨T, i, none⟩ = some (.slice (some ⟨b, 0, none⟩) s.w s.w) := hT
   have a2 : wr.cell? ⟨g, 2, none⟩ = some (.slice (some ⟨T, 0, none⟩) s.h c) := (HJ.out.1.below hA.out).cell 2
   clear hb hb' hlen hrl hT hir hq hpq hiq hqe
   go_wp2_with fail
   clear hT' a2
   go_loopg [90] s.w (fun kq v90 w' => ∃ j : Nat, v90 = .int .i64 (j : Int) ∧ j + kq = s.w ∧ Hid (Below W.heap.size W w'))
   case atStart => exact ⟨0, rfl, by omega, hA.out⟩
   case round =>
    clear hA
    obtain ⟨j, rfl, hkj, hA⟩ := hrel
    by_cases hj : j < s.w
    ·have d4 : (j : Int) < (s.w : Int) := by omega
     have j0 : (0 : Int) ≤ (j : Int) := by omega
     have e2 : IntKind.i64.wrap ((j : Int) + 1) = ((j + 1 : Nat) : Int) := by have := HJ.out.2.2.1.w1; rw [wrapI _ (by omega) (by omega)]; omega
     have hx : j < r.length := by rw [HR.out.2.2.1]; exact hj
     obtain ⟨q0, q1, _⟩ := (HJ.out.1.below hA.out).glyph HR.out.1 HR.out.2.2.2.1 (List.getElem?_eq_getElem hx)
     obtain ⟨gm, hgm, hgc⟩ := char_at HR.out.2.2.2.2.2.1 j hx
     obtain ⟨p0, p1, _⟩ := (HJ.out.2.1.below hA.out).glyph HR.out.2.1 HR.out.2.2.2.2.1 hgm
     rw [hgc] at p0
     have a2 : wr.cell? ⟨g2, 2, none⟩ = some (.slice (some ⟨T2, 0, none⟩) s.h c2) := by have := (HJ.out.2.1.below hA.out).cell 2; rw [← HE.out.2.1]; exact this
     have hT' : wr.cell? ⟨T2, i, none⟩ = some (.slice (some ⟨b', 0, none⟩) s.w s.w) := by
      obtain ⟨b3, hb3, _, _, h3⟩ := (HJ.out.2.1.below hA.out).get HR.out.2.2.2.2.2.2
      rw [HR.out.2.1] at hb3
      obtain rfl := Option.some.inj hb3
      rw [← HE.out.1]
      exact h3
     generalize gm.2 = ga at p1
     generalize r[j] = gl at q0 q1 p0
     clear hx hgm hgc
     go_upto_region 9 with fail
     obtain ⟨V, hV⟩ : ∃ V, V = wr.alloc (Obj.cells #[.int .u8 gl.1, .int .i64 gl.2] 89) := ⟨_, rfl⟩
     rw [← hV]
     have hVB : Below wr.heap.size wr V := by rw [hV]; exact (Below.refl _ _).alloc (Nat.le_refl _) _
     have hVn : V.heap[wr.heap.size]? = some (Obj.cells #[.int .u8 gl.1, .int .i64 gl.2] 89 (0, 0)) := by rw [hV]; exact blk_new wr _
     have HV := Lib.hid (And.intro hVB hVn)
     replace a2 := (hVB.cell (World.block_lt_of_cell? wr _ a2)).trans a2
     replace hT' := (hVB.cell (World.block_lt_of_cell? wr _ hT')).trans hT'
     replace p0 := (hVB.cell (World.block_lt_of_cell? wr _ p0)).trans p0
     replace p1 := (hVB.cell (World.block_lt_of_cell? wr _ p1)).trans p1
     clear hVB hVn hV q0 q1
     go_upto_region 10 with fail
     obtain ⟨U, hU⟩ : ∃ U, U = V.alloc (Obj.cells #[.int .u8 gl.1, .int .i64 ga] 89) := ⟨_, rfl⟩
     rw [← hU]
     have hUB : Below V.heap.size V U := by rw [hU]; exact (Below.refl _ _).alloc (Nat.le_refl _) _
     have hUn : U.heap[V.heap.size]? = some (Obj.cells #[.int .u8 gl.1, .int .i64 ga] 89 (0, 0)) := by rw [hU]; exact blk_new V _
     have r0 : U.cell? ⟨wr.heap.size, 0, none⟩ = some (.int .u8 gl.1) := (hUB.cell (blk_lt HV.out.2)).trans (blk_cell HV.out.2 0)
     have r1 : U.cell? ⟨wr.heap.size, 1, none⟩ = some (.int .i64 gl.2) := (hUB.cell (blk_lt HV.out.2)).trans (blk_cell HV.out.2 1)
     have t0 : U.cell? ⟨V.heap.size, 0, none⟩ = some (.int .u8 gl.1) := blk_cell hUn 0
     have t1 : U.cell? ⟨V.heap.size, 1, none⟩ = some (.int .i64 ga) := blk_cell hUn 1
     have HU := Lib.hid (show Below W.heap.size W U from hA.out.trans ((HV.out.1.trans (hUB.mono HV.out.1.size)).mono hA.out.size))
     clear hUB hUn hU a2 hT' p0 p1
     go_wp2_with fail
     go_roundg (s.w - (j + 1))
     case measure => omega
     case rel => exact ⟨j + 1, rfl, by omega, HU.out⟩
    ·have d4 : decide ((j : Int) < (s.w : Int)) = false := decide_eq_false (by omega)
     go_wp2_with fail
     go_roundg (s.h - (i + 1))
     case measure => omega
     case rel => exact ⟨i + 1, rfl, by omega, hA.out⟩
  ·have d3 : decide ((i : Int) < (s.h : Int)) = false := decide_eq_false (by omega)
   go_wp2_with fail
   go_ret
   exact ⟨rfl, HJ.out.2.2.2.trans (hA.out.mono HJ.out.2.2.2.size)⟩
end Go.Proofs.YteebhoehflgfoaaGreatDoor.Y
end
