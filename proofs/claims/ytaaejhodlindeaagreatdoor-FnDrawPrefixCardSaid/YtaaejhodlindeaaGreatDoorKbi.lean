/- Texts of this claim, joined: Y30. Of each, what the claim uses. -/
import Derived.Test.YtaaejhodlindeaaGreatDoorKac
import Derived.Test.YtaaejhodlindeaaGreatDoorKaz
import Derived.Test.YtaaejhodlindeaaGreatDoorKbb
import Derived.Test.YtaaejhodlindeaaGreatDoorKbc
import Derived.Test.YtaaejhodlindeaaGreatDoorKbd
import Derived.Test.YtaaejhodlindeaaGreatDoorKaq
import Derived.Test.YtaaejhodlindeaaGreatDoorKax
import Derived.Test.YtaaejhodlindeaaGreatDoorKbh
section
namespace Go.Proofs.YtaaejhodlindeaaGreatDoor.Y
open Go.RowKit Go.Proofs.YtaaejhodlindeaaGreatDoorW.PrintWords Go.Proofs.YtaaejhodlindeaaGreatDoorW.PrintLast Go.Proofs.YtaaejhodlindeaaGreatDoorW.PrintMore
attribute [local go_sem] max2_int min2_int max_two min_two max_three min_three max_four min_four   -- for this text's walks alone
set_option linter.unusedVariables false
set_option linter.unusedSimpArgs false
set_option maxHeartbeats 8000000 in
set_option maxRecDepth 100000 in
theorem laws_FnDrawPrefix.calls (k : Nat) (A0 : Option Addr) (c0 : Nat) (l0 : List (S42)) (a1 : Int) (r : Bool) (w : World) (hT : XTab w) (hr0 : Kd.C k42 w A0 l0.length l0) (hc0 : l0.length ≤ c0) (h : laws_FnDrawPrefix.f k l0 a1 = some r) :
    Calls Tryz.prog 8 #[.slice A0 l0.length c0, .int .u16 a1] w fun e w' => e = .returned (.bool r) ∧ Below w.heap.size w w' := by
  have hu42 := Tryz.underlying42
  have HT := Aside0.mk hT
  clear hT
  have HR0 := Aside0.mk hr0
  have HC0 := Aside0.mk hc0
  clear hr0 hc0
  have HB := Aside0.mk (Below.refl w.heap.size w)
  have H : ((laws_zzFits3.f k l0).bind fun t249 => (if t249 = true then ((spec_IsDrawPlan.f k l0).bind fun t250 => (if t250 = true then ((laws_drawText.f k l0).bind fun t252 => (if (wrap64 ((t252.length : Int) + 1)) = 0 then (none) else ((impl_Feed.f 32 4096 t252).bind fun t255 => (if 0 ≤ (Int.tmod (wrap64 (a1)) (wrap64 ((t252.length : Int) + 1))) then (if (Int.tmod (wrap64 (a1)) (wrap64 ((t252.length : Int) + 1))) ≤ (t252.length : Int) then ((impl_Feed.f 32 4096 (t252.take ((Int.tmod (wrap64 (a1)) (wrap64 ((t252.length : Int) + 1))) : Int).toNat)).bind fun t263 => (laws_FnDrawPrefix.l0 k (Int.tmod (wrap64 (a1)) (wrap64 ((t252.length : Int) + 1))) t255 t263 0 0 l0 (l0.length : Int) 0)) else (none)) else (none))))) else ((laws_drawAwake.f).bind fun t251 => (some t251)))) else (some true))) = some r := h
  clear h
  replace H := Option.bind_eq_some_iff.mp H
  obtain ⟨t249, A30, H⟩ := H
  replace H : (if t249 = true then ((spec_IsDrawPlan.f k l0).bind fun t250 => (if t250 = true then ((laws_drawText.f k l0).bind fun t252 => (if (wrap64 ((t252.length : Int) + 1)) = 0 then (none) else ((impl_Feed.f 32 4096 t252).bind fun t255 => (if 0 ≤ (Int.tmod (wrap64 (a1)) (wrap64 ((t252.length : Int) + 1))) then (if (Int.tmod (wrap64 (a1)) (wrap64 ((t252.length : Int) + 1))) ≤ (t252.length : Int) then ((impl_Feed.f 32 4096 (t252.take ((Int.tmod (wrap64 (a1)) (wrap64 ((t252.length : Int) + 1))) : Int).toNat)).bind fun t263 => (laws_FnDrawPrefix.l0 k (Int.tmod (wrap64 (a1)) (wrap64 ((t252.length : Int) + 1))) t255 t263 0 0 l0 (l0.length : Int) 0)) else (none)) else (none))))) else ((laws_drawAwake.f).bind fun t251 => (some t251)))) else (some true)) = some r := H
  have A3 := Aside0.mk A30
  clear A30
  by_cases c4 : t249 = true
  · subst c4
    have H1 : ((spec_IsDrawPlan.f k l0).bind fun t250 => (if t250 = true then ((laws_drawText.f k l0).bind fun t252 => (if (wrap64 ((t252.length : Int) + 1)) = 0 then (none) else ((impl_Feed.f 32 4096 t252).bind fun t255 => (if 0 ≤ (Int.tmod (wrap64 (a1)) (wrap64 ((t252.length : Int) + 1))) then (if (Int.tmod (wrap64 (a1)) (wrap64 ((t252.length : Int) + 1))) ≤ (t252.length : Int) then ((impl_Feed.f 32 4096 (t252.take ((Int.tmod (wrap64 (a1)) (wrap64 ((t252.length : Int) + 1))) : Int).toNat)).bind fun t263 => (laws_FnDrawPrefix.l0 k (Int.tmod (wrap64 (a1)) (wrap64 ((t252.length : Int) + 1))) t255 t263 0 0 l0 (l0.length : Int) 0)) else (none)) else (none))))) else ((laws_drawAwake.f).bind fun t251 => (some t251)))) = some r := by rw [if_pos rfl] at H; exact H
    clear H
    have H := H1
    clear H1
    replace H := Option.bind_eq_some_iff.mp H
    obtain ⟨t250, A50, H⟩ := H
    replace H : (if t250 = true then ((laws_drawText.f k l0).bind fun t252 => (if (wrap64 ((t252.length : Int) + 1)) = 0 then (none) else ((impl_Feed.f 32 4096 t252).bind fun t255 => (if 0 ≤ (Int.tmod (wrap64 (a1)) (wrap64 ((t252.length : Int) + 1))) then (if (Int.tmod (wrap64 (a1)) (wrap64 ((t252.length : Int) + 1))) ≤ (t252.length : Int) then ((impl_Feed.f 32 4096 (t252.take ((Int.tmod (wrap64 (a1)) (wrap64 ((t252.length : Int) + 1))) : Int).toNat)).bind fun t263 => (laws_FnDrawPrefix.l0 k (Int.tmod (wrap64 (a1)) (wrap64 ((t252.length : Int) + 1))) t255 t263 0 0 l0 (l0.length : Int) 0)) else (none)) else (none))))) else ((laws_drawAwake.f).bind fun t251 => (some t251))) = some r := H
    have A5 := Aside0.mk A50
    clear A50
    by_cases c6 : t250 = true
    · subst c6
      have H1 : ((laws_drawText.f k l0).bind fun t252 => (if (wrap64 ((t252.length : Int) + 1)) = 0 then (none) else ((impl_Feed.f 32 4096 t252).bind fun t255 => (if 0 ≤ (Int.tmod (wrap64 (a1)) (wrap64 ((t252.length : Int) + 1))) then (if (Int.tmod (wrap64 (a1)) (wrap64 ((t252.length : Int) + 1))) ≤ (t252.length : Int) then ((impl_Feed.f 32 4096 (t252.take ((Int.tmod (wrap64 (a1)) (wrap64 ((t252.length : Int) + 1))) : Int).toNat)).bind fun t263 => (laws_FnDrawPrefix.l0 k (Int.tmod (wrap64 (a1)) (wrap64 ((t252.length : Int) + 1))) t255 t263 0 0 l0 (l0.length : Int) 0)) else (none)) else (none))))) = some r := by rw [if_pos rfl] at H; exact H
      clear H
      have H := H1
      clear H1
      replace H := Option.bind_eq_some_iff.mp H
      obtain ⟨t252, A70, H⟩ := H
      replace H : (if (wrap64 ((t252.length : Int) + 1)) = 0 then (none) else ((impl_Feed.f 32 4096 t252).bind fun t255 => (if 0 ≤ (Int.tmod (wrap64 (a1)) (wrap64 ((t252.length : Int) + 1))) then (if (Int.tmod (wrap64 (a1)) (wrap64 ((t252.length : Int) + 1))) ≤ (t252.length : Int) then ((impl_Feed.f 32 4096 (t252.take ((Int.tmod (wrap64 (a1)) (wrap64 ((t252.length : Int) + 1))) : Int).toNat)).bind fun t263 => (laws_FnDrawPrefix.l0 k (Int.tmod (wrap64 (a1)) (wrap64 ((t252.length : Int) + 1))) t255 t263 0 0 l0 (l0.length : Int) 0)) else (none)) else (none)))) = some r := H
      have A7 := Aside0.mk A70
      clear A70
      by_cases c8 : (wrap64 ((t252.length : Int) + 1)) = 0
      · rw [if_pos c8] at H
        exact absurd H (by simp)
      · rw [if_neg c8] at H
        have c8b0 : ((wrap64 ((t252.length : Int) + 1)) == 0) = false := beq_eq_false_iff_ne.mpr c8
        have c8b1 : ((wrap64 ((t252.length : Int) + 1)) != 0) = true := bne_iff_ne.mpr c8
        replace H := Option.bind_eq_some_iff.mp H
        obtain ⟨t255, A90, H⟩ := H
        replace H : (if 0 ≤ (Int.tmod (wrap64 (a1)) (wrap64 ((t252.length : Int) + 1))) then (if (Int.tmod (wrap64 (a1)) (wrap64 ((t252.length : Int) + 1))) ≤ (t252.length : Int) then ((impl_Feed.f 32 4096 (t252.take ((Int.tmod (wrap64 (a1)) (wrap64 ((t252.length : Int) + 1))) : Int).toNat)).bind fun t263 => (laws_FnDrawPrefix.l0 k (Int.tmod (wrap64 (a1)) (wrap64 ((t252.length : Int) + 1))) t255 t263 0 0 l0 (l0.length : Int) 0)) else (none)) else (none)) = some r := H
        have A9 := Aside0.mk A90
        clear A90
        obtain ⟨ji10, hji10⟩ : ∃ j_ : Int, (Int.tmod (wrap64 (a1)) (wrap64 ((t252.length : Int) + 1))) = j_ := ⟨_, rfl⟩
        replace H : (if 0 ≤ (ji10) then (if (ji10) ≤ (t252.length : Int) then ((impl_Feed.f 32 4096 (t252.take ((ji10) : Int).toNat)).bind fun t263 => (laws_FnDrawPrefix.l0 k ji10 t255 t263 0 0 l0 (l0.length : Int) 0)) else (none)) else (none)) = some r := by first | (rw [hji10] at H; exact H) | (simp only [hji10] at H ⊢; exact H)
        (try rw [hji10] at A3)
        (try rw [hji10] at A5)
        (try rw [hji10] at A7)
        (try rw [hji10] at A9)
        by_cases c11 : 0 ≤ (ji10)
        · rw [if_pos c11] at H
          have c11b0 := eq_true c11
          have c11b1 : decide (0 ≤ (ji10)) = true := decide_eq_true c11
          clear c11
          by_cases c12 : (ji10) ≤ (t252.length : Int)
          · rw [if_pos c12] at H
            have c12b0 := eq_true c12
            have c12b1 : decide ((ji10) ≤ (t252.length : Int)) = true := decide_eq_true c12
            clear c12
            obtain ⟨y258, hy258⟩ : ∃ y_ : List Int, y_ = (t252.take ((ji10) : Int).toNat) := ⟨_, rfl⟩
            replace H : ((impl_Feed.f 32 4096 y258).bind fun t263 => (laws_FnDrawPrefix.l0 k ji10 t255 t263 0 0 l0 (l0.length : Int) 0)) = some r := by first | (rw [hy258]; with_reducible exact H) | (have H2_ := (Option.bind_some _ _).symm.trans H; rw [hy258]; with_reducible exact H2_) | (have H2_ := (Option.bind_some _ _).symm.trans H; with_reducible exact H2_) | with_reducible exact H | (rw [hy258]; exact H) | exact H
            have Ny258 := Aside0.mk hy258
            clear hy258
            replace H := Option.bind_eq_some_iff.mp H
            obtain ⟨t263, A130, H⟩ := H
            replace H : (laws_FnDrawPrefix.l0 k ji10 t255 t263 0 0 l0 (l0.length : Int) 0) = some r := H
            have A13 := Aside0.mk A130
            clear A130
            have H' := Aside0.mk H
            clear H
            go_enter Tryz.func8, Tryz.ntmps8
            go_wp2_with (first | ((with_reducible refine gate_callee (f := 19) rfl ?_); refine goesL_ (some 15) rfl rfl Tryz.func19 (by kernel_rfl) rfl #[.slice A0 l0.length c0] rfl (by (try simp only [List.map_toArray, List.map_cons, List.map_nil]); first | done | rfl | (simp only [List.length_drop, List.length_take]; rfl)) ?_; (with_reducible refine (laws_zzFits3.calls k _ _ l0 true _ ?side1 ?side2 A3.out).mono ?_); (case side1 => repeat (first | exact HR0.out | (with_reducible refine Kd.C_alloc ?_ _) | (with_reducible refine Kd.C_drewN ?_ _) | (with_reducible refine Kd.C_drew ?_))); (case side2 => exact HC0.out); rintro e w14 ⟨rfl, hb⟩; refine ⟨_, rfl, ?_⟩; have n0_ := Aside0.mk (below_step (by repeat (first | (with_reducible first | exact HB.out | apply below_alloc | apply pw_below_drewN | apply below_drew1) | exact HB.out)) hb); clear HB; have HB := n0_; clear n0_; (try clear hb); (try clear hb2); (try clear hk); (try clear hi)) | ((with_reducible refine gate_callee (f := 20) rfl ?_); refine goesL_ (some 18) rfl rfl Tryz.func20 (by kernel_rfl) rfl #[.slice A0 l0.length c0] rfl (by (try simp only [List.map_toArray, List.map_cons, List.map_nil]); first | done | rfl | (simp only [List.length_drop, List.length_take]; rfl)) ?_; (with_reducible refine (spec_IsDrawPlan.calls k _ _ l0 true _ ?side1 ?side2 A5.out).mono ?_); (case side1 => repeat (first | exact (Kd.C_below HR0.out HB.out) | (with_reducible refine Kd.C_alloc ?_ _) | (with_reducible refine Kd.C_drewN ?_ _) | (with_reducible refine Kd.C_drew ?_))); (case side2 => exact HC0.out); rintro e w15 ⟨rfl, hb⟩; refine ⟨_, rfl, ?_⟩; have n0_ := Aside0.mk (below_step (by repeat (first | (with_reducible first | exact HB.out | apply below_alloc | apply pw_below_drewN | apply below_drew1) | exact HB.out)) hb); clear HB; have HB := n0_; clear n0_; (try clear hb); (try clear hb2); (try clear hk); (try clear hi)) | ((with_reducible refine gate_callee (f := 22) rfl ?_); refine goesL_ (some 22) rfl rfl Tryz.func22 (by kernel_rfl) rfl #[.slice A0 l0.length c0] rfl (by (try simp only [List.map_toArray, List.map_cons, List.map_nil]); first | done | rfl | (simp only [List.length_drop, List.length_take]; rfl)) ?_; (with_reducible refine (laws_drawText.calls k _ _ l0 t252 _ ?side3 ?side1 ?side2 A7.out).mono ?_); (case side1 => repeat (first | exact (Kd.C_below HR0.out HB.out) | (with_reducible refine Kd.C_alloc ?_ _) | (with_reducible refine Kd.C_drewN ?_ _) | (with_reducible refine Kd.C_drew ?_))); (case side2 => exact HC0.out); (case side3 => exact XTab.below HT.out (by repeat (first | (with_reducible first | exact HB.out | apply below_alloc | apply pw_below_drewN | apply below_drew1) | exact HB.out))); rintro e w16 ⟨v253, rfl, ho0, hb⟩; refine ⟨_, rfl, ?_⟩; have n0_ := Aside0.mk (Kd.V_lower (Kd.V_mono (ok' := fun k_ => True) ho0 (fun k_ hk_ => trivial)) (below_size (by repeat (first | (with_reducible first | exact HB.out | apply below_alloc | apply pw_below_drewN | apply below_drew1) | exact HB.out)))); have n1_ := Aside0.mk (below_step (by repeat (first | (with_reducible first | exact HB.out | apply below_alloc | apply pw_below_drewN | apply below_drew1) | exact HB.out)) hb); clear HB; have HO254 := n0_; have HB := n1_; clear n0_ n1_; (try clear hb); (try clear hb2); (try clear hk); (try clear hi); (try clear ho0); obtain ⟨Ao17, co17, eo17⟩ := Kd.V_slice HO254.out; subst eo17) | ((with_reducible refine gate_callee (f := 17) rfl ?_); refine goesL_ (some 30) rfl rfl Tryz.func17 (by kernel_rfl) rfl #[.int .i64 32, .int .i64 4096, .slice Ao17 t252.length co17] rfl (by (try simp only [List.map_toArray, List.map_cons, List.map_nil]); first | done | rfl | (simp only [List.length_drop, List.length_take]; rfl)) ?_; (with_reducible refine (impl_Feed.calls 32 4096 _ _ t252 t255 _ ?side1 ?side2 A9.out).mono ?_); (case side1 => repeat (first | exact (Kd.V_reads' HO254.out).2.2 | (with_reducible refine Kd.C_alloc ?_ _) | (with_reducible refine Kd.C_drewN ?_ _) | (with_reducible refine Kd.C_drew ?_))); (case side2 => exact (Kd.V_reads' HO254.out).2.1); rintro e w18 ⟨v256, rfl, ho0, hb⟩; refine ⟨_, rfl, ?_⟩; have n0_ := Aside0.mk (Kd.V_elder' (by (with_reducible repeat (first | apply Kd.V_alloc | apply Kd.V_drewN | apply Kd.V_drew)); exact HO254.out) (by first | exact Kd.N_base ho0 | exact Kd.S_base ho0) hb); have n1_ := Aside0.mk (Kd.N_lower (Kd.N_mono (ok' := fun k_ => True) (Kd.S_N (Kd.S_bound ho0)) (fun k_ hk_ => trivial)) (below_size (by repeat (first | (with_reducible first | exact HB.out | apply below_alloc | apply pw_below_drewN | apply below_drew1) | exact HB.out)))); have n2_ := Aside0.mk (below_step (by repeat (first | (with_reducible first | exact HB.out | apply below_alloc | apply pw_below_drewN | apply below_drew1) | exact HB.out)) hb); clear HO254; clear HB; have HO254 := n0_; have HO257 := n1_; have HB := n2_; clear n0_ n1_ n2_; (try clear hb); (try clear hb2); (try clear hk); (try clear hi); (try clear ho0); have q19 : ((ji10) : Int) ≤ ((t252.length : Int) : Int) := of_decide_eq_true (by first | (with_reducible assumption) | assumption); obtain ⟨i019, hi019, _, hsz19, _⟩ := info_parts info5; have hroom19 : t252.length ≤ co17 := (Kd.V_reads' HO254.out).2.1; have hC19 : Kd.F (Kd.int .u8) _ _ Ao17 t252.length t252 := (Kd.V_at (base := w.heap.size) HO254.out).2.2; have hcut19 := cut_to (P := Tryz.prog) 30 5 .i64 Tryz.underlying30 hi019 Ao17 t252.length co17 (ji10) (of_decide_eq_true (by first | (with_reducible assumption) | assumption)) q19 hroom19; have hr19 := Kd.F_take (m := ((ji10) : Int).toNat) hC19 (by omega); have hy19 : y258.length = ((ji10) : Int).toNat := (by rw [Ny258.out, List.length_take]; omega); rw [← Ny258.out] at hr19; rw [← hy19] at hcut19; have HO262 := Aside0.mk (show Kd.V (Kd.int .u8) 5 _ w.heap.size _ (.slice Ao17 y258.length co17) y258 from Kd.V_mk (by omega) hr19); have HC262 := Aside0.mk (show y258.length ≤ co17 from by omega); clear hr19 hC19 hroom19 hi019 hsz19; have KY19 := Aside0.mk hy19; clear hy19; replace q19 := eq_true q19) | ((with_reducible refine gate_callee (f := 17) rfl ?_); refine goesL_ (some 34) rfl rfl Tryz.func17 (by kernel_rfl) rfl #[.int .i64 32, .int .i64 4096, .slice Ao17 y258.length co17] rfl (by (try simp only [List.map_toArray, List.map_cons, List.map_nil]); first | done | rfl | (simp only [List.length_drop, List.length_take]; rfl)) ?_; (with_reducible refine (impl_Feed.calls 32 4096 _ _ y258 t263 _ ?side1 ?side2 A13.out).mono ?_); (case side1 => repeat (first | exact (Kd.V_reads' HO262.out).2.2 | (with_reducible refine Kd.C_alloc ?_ _) | (with_reducible refine Kd.C_drewN ?_ _) | (with_reducible refine Kd.C_drew ?_))); (case side2 => exact (Kd.V_reads' HO262.out).2.1); rintro e w20 ⟨v264, rfl, ho0, hb⟩; refine ⟨_, rfl, ?_⟩; have n0_ := Aside0.mk (Kd.V_elder' (by (with_reducible repeat (first | apply Kd.V_alloc | apply Kd.V_drewN | apply Kd.V_drew)); exact HO254.out) (by first | exact Kd.N_base ho0 | exact Kd.S_base ho0) hb); have n1_ := Aside0.mk (Kd.N_elder' (by (with_reducible repeat (first | apply Kd.N_alloc | apply Kd.N_drewN | apply Kd.N_drew)); exact HO257.out) (by first | exact Kd.N_base ho0 | exact Kd.S_base ho0) hb); have n2_ := Aside0.mk (Kd.V_elder' (by (with_reducible repeat (first | apply Kd.V_alloc | apply Kd.V_drewN | apply Kd.V_drew)); exact HO262.out) (by first | exact Kd.N_base ho0 | exact Kd.S_base ho0) hb); have n3_ := Aside0.mk (Kd.N_lower (Kd.N_mono (ok' := fun k_ => some k_ ≠ (v256 : Value).ownBlock) (Kd.S_N (Kd.S_bound ho0)) (fun k_ hk_ => (Kd.fresh' (Kd.N_lt (by (with_reducible repeat (first | apply Kd.N_alloc | apply Kd.N_drewN | apply Kd.N_drew)); exact HO257.out)) k_ hk_.2.1))) (below_size (by repeat (first | (with_reducible first | exact HB.out | apply below_alloc | apply pw_below_drewN | apply below_drew1) | exact HB.out)))); have n4_ := Aside0.mk (below_step (by repeat (first | (with_reducible first | exact HB.out | apply below_alloc | apply pw_below_drewN | apply below_drew1) | exact HB.out)) hb); clear HO254; clear HO257; clear HO262; clear HB; have HO254 := n0_; have HO257 := n1_; have HO262 := n2_; have HO265 := n3_; have HB := n4_; clear n0_ n1_ n2_ n3_ n4_; (try clear hb); (try clear hb2); (try clear hk); (try clear hi); (try clear ho0)))
            go_loopg [9, 10, 37] k (fun kq v9 v10 v37 w' => ∃ (x9_1 : Int) (x10_1 : Int) (x37_1 : Int), v9 = .int .i64 x9_1 ∧ v10 = .int .i64 x10_1 ∧ v37 = .int .i64 x37_1 ∧ Aside0 (laws_FnDrawPrefix.l0 kq ji10 t255 t263 x9_1 x10_1 l0 (l0.length : Int) x37_1 = some r) ∧ Aside0 (kq ≤ k) ∧ Aside0 (Kd.N k83 83 w' w.heap.size (fun k_ => some k_ ≠ (v264 : Value).ownBlock) v256 t255) ∧ Aside0 (Kd.N k83 83 w' w.heap.size (fun k_ => some k_ ≠ (v256 : Value).ownBlock) v264 t263) ∧ Aside0 (Below w.heap.size w w'))
            case atStart => exact ⟨(0), (0), (0), (by first | rfl | (simp; done) | (simp [*]; done)), (by first | rfl | (simp; done) | (simp [*]; done)), (by first | rfl | (simp; done) | (simp [*]; done)), H', ⟨Nat.le_refl _⟩, ⟨by (with_reducible repeat (first | apply Kd.N_alloc | apply Kd.N_drewN | apply Kd.N_drew)); exact Kd.N_mono HO257.out (fun _ hk => hk.2)⟩, ⟨by (with_reducible repeat (first | apply Kd.N_alloc | apply Kd.N_drewN | apply Kd.N_drew)); exact HO265.out⟩, ⟨by repeat (first | (with_reducible first | exact HB.out | apply below_alloc | apply pw_below_drewN | apply below_drew1) | exact HB.out)⟩⟩
            case round =>
              clear H'
              try clear c1
              try clear q1
              try clear c2
              try clear p2
              try clear c4
              try clear c6
              try clear p6
              try clear c8
              try clear c8b0
              try clear c8b1
              try clear c11
              try clear c11b0
              try clear c11b1
              try clear c12
              try clear c12b0
              try clear c12b1
              try clear c17
              try clear c19
              try clear q19
              try clear c20
              try clear q19
              obtain ⟨x9_1, x10_1, x37_1, rfl, rfl, rfl, HA, HK1, HO_7, HO_8, HB⟩ := hrel
              cases gk with
              | zero => exact absurd HA.out (by simp [laws_FnDrawPrefix.l0])
              | succ k1 =>
                have H := HA.out
                clear HA
                simp only [laws_FnDrawPrefix.l0] at H
                by_cases c21 : x37_1 < (l0.length : Int)
                · rw [if_pos c21] at H
                  have c21b0 : decide (x37_1 < (l0.length : Int)) = true := decide_eq_true c21
                  clear c21
                  by_cases c22 : 0 ≤ x37_1
                  · rw [if_pos c22] at H
                    have c22b0 : decide (0 ≤ x37_1) = true := decide_eq_true c22
                    clear c22
                    by_cases c23 : x37_1 < (l0.length : Int)
                    · rw [if_pos c23] at H
                      have c23b0 : decide (x37_1 < (l0.length : Int)) = true := decide_eq_true c23
                      clear c23
                      replace H := Option.bind_eq_some_iff.mp H
                      obtain ⟨t268, A240, H⟩ := H
                      replace H : (if ((rd_T42 l0 x37_1).f0) = 60 then (laws_FnDrawPrefix.l0 k1 ji10 t255 t263 (wrap64 (x9_1 + (t268.size : Int))) (wrap64 (x10_1 + (mn (mx (wrap64 (ji10 - x9_1)) 0) (t268.size : Int)))) l0 (l0.length : Int) (wrap64 (x37_1 + 1))) else (if (wrap64 (x9_1 + (t268.size : Int))) ≤ ji10 then (laws_FnDrawPrefix.l0 k1 ji10 t255 t263 (wrap64 (x9_1 + (t268.size : Int))) (wrap64 (x10_1 + 1)) l0 (l0.length : Int) (wrap64 (x37_1 + 1))) else (laws_FnDrawPrefix.l0 k1 ji10 t255 t263 (wrap64 (x9_1 + (t268.size : Int))) x10_1 l0 (l0.length : Int) (wrap64 (x37_1 + 1))))) = some r := H
                      have A24 := Aside0.mk A240
                      clear A240
                      by_cases c25 : ((rd_T42 l0 x37_1).f0) = 60
                      · rw [if_pos c25] at H
                        have c25b0 : (((rd_T42 l0 x37_1).f0) == 60) = true := beq_iff_eq.mpr c25
                        have c25b1 : (((rd_T42 l0 x37_1).f0) != 60) = false := bne_eq_false_iff_eq.mpr c25
                        clear c25
                        obtain ⟨ji26, hji26⟩ : ∃ j_ : Int, (mx (wrap64 (ji10 - x9_1)) 0) = j_ := ⟨_, rfl⟩
                        replace H : (laws_FnDrawPrefix.l0 k1 ji10 t255 t263 (wrap64 (x9_1 + (t268.size : Int))) (wrap64 (x10_1 + (mn (ji26) (t268.size : Int)))) l0 (l0.length : Int) (wrap64 (x37_1 + 1))) = some r := by first | (rw [hji26] at H; exact H) | (simp only [hji26] at H ⊢; exact H)
                        (try rw [hji26] at A24)
                        have hji26_ : (if (wrap64 (ji10 - x9_1)) < 0 then 0 else (wrap64 (ji10 - x9_1))) = ji26 := hji26
                        obtain ⟨ji27, hji27⟩ : ∃ j_ : Int, (mn (ji26) (t268.size : Int)) = j_ := ⟨_, rfl⟩
                        replace H : (laws_FnDrawPrefix.l0 k1 ji10 t255 t263 (wrap64 (x9_1 + (t268.size : Int))) (wrap64 (x10_1 + (ji27))) l0 (l0.length : Int) (wrap64 (x37_1 + 1))) = some r := by first | (rw [hji27] at H; exact H) | (simp only [hji27] at H ⊢; exact H)
                        (try rw [hji27] at A24)
                        have hji27_ : (if (t268.size : Int) < (ji26) then (t268.size : Int) else (ji26)) = ji27 := hji27
                        have H' := Aside0.mk H
                        clear H
                        have p266 : 0 ≤ (x37_1 : Int) := of_decide_eq_true (by first | (with_reducible assumption) | assumption)
                        have q266 : x37_1 < (l0.length : Int) := of_decide_eq_true (by first | (with_reducible assumption) | assumption)
                        obtain ⟨ad266, A266_4, c266_4, e266, hx266_0, hx266_1, hx266_2, hx266_3, hx266_4, hl266_4, hi266_4⟩ := at_T42 HR0.out x37_1 p266 q266
                        cases e266
                        replace hx266_0 := (HB.out.cell (World.block_lt_of_cell? w _ hx266_0)).trans hx266_0
                        replace hx266_1 := (HB.out.cell (World.block_lt_of_cell? w _ hx266_1)).trans hx266_1
                        replace hx266_2 := (HB.out.cell (World.block_lt_of_cell? w _ hx266_2)).trans hx266_2
                        replace hx266_3 := (HB.out.cell (World.block_lt_of_cell? w _ hx266_3)).trans hx266_3
                        replace hx266_4 := (HB.out.cell (World.block_lt_of_cell? w _ hx266_4)).trans hx266_4
                        have HR266_4 := Aside0.mk hi266_4
                        have HC266_4 := Aside0.mk hl266_4
                        clear hi266_4 hl266_4
                        replace p266 := eq_true p266
                        replace q266 := eq_true q266
                        go_wp2_with (first | ((with_reducible refine gate_dst (N := 12) rfl ?_); (try (refine gate_guard (by rfl) ?_; dsimp only)); refine box_event ?hg (N := 12) ?hd (cs := #[.int .i64 0, .int .i64 0, .int .i64 0, .string (⟨#[]⟩ : ByteArray), .slice none 0 0]) (t := 42) ?hr ?_; (case hd => rfl); (case hg => rfl); (case hr => first | (go_simp; done) | (go_simp; rfl)); intro gb267 hg w28 hbox hb; have n0_ := Aside0.mk (Kd.N_below (Kd.N_elderB (by (with_reducible repeat (first | apply Kd.N_alloc | apply Kd.N_drewN | apply Kd.N_drew)); exact HO_7.out) gb267 (Nat.le_of_eq hg.symm)) hb); have n1_ := Aside0.mk (Kd.N_below (Kd.N_elderB (by (with_reducible repeat (first | apply Kd.N_alloc | apply Kd.N_drewN | apply Kd.N_drew)); exact HO_8.out) gb267 (Nat.le_of_eq hg.symm)) hb); have n2_ := Aside0.mk (below_step (by repeat (first | (with_reducible first | exact HB.out | apply below_alloc | apply pw_below_drewN | apply below_drew1) | exact HB.out)) hb); have n3_ := Aside0.mk (hbox); have n4_ := Aside0.mk ((by rw [hg]; exact (below_size (by repeat (first | (with_reducible first | exact HB.out | apply below_alloc | apply pw_below_drewN | apply below_drew1) | exact HB.out))) : w.heap.size ≤ gb267)); have n5_ := Aside0.mk ((by rw [hg]; exact (below_size (by repeat (first | (with_reducible first | exact HB.out | apply below_alloc | apply pw_below_drewN | apply below_drew1) | exact HB.out))) : w.heap.size ≤ gb267)); clear HO_7; clear HO_8; clear HB; have HO_7 := n0_; have HO_8 := n1_; have HB := n2_; have BK267 := n3_; have GW267 := n4_; have GE267 := n5_; clear n0_ n1_ n2_ n3_ n4_ n5_; clear hb hbox hg; have hcz29_0 : w28.cell? ⟨gb267, 0, none⟩ = some (.int .i64 0) := (blk_cell BK267.out 0).trans rfl; have hcz29_1 : w28.cell? ⟨gb267, 1, none⟩ = some (.int .i64 0) := (blk_cell BK267.out 1).trans rfl; have hcz29_2 : w28.cell? ⟨gb267, 2, none⟩ = some (.int .i64 0) := (blk_cell BK267.out 2).trans rfl; have hcz29_3 : w28.cell? ⟨gb267, 3, none⟩ = some (.string (⟨#[]⟩ : ByteArray)) := (blk_cell BK267.out 3).trans rfl; have hcz29_4 : w28.cell? ⟨gb267, 4, none⟩ = some (.slice none 0 0) := (blk_cell BK267.out 4).trans rfl; have hfz29_0 := blk_frozen BK267.out 0; have hfz29_1 := blk_frozen BK267.out 1; have hfz29_2 := blk_frozen BK267.out 2; have hfz29_3 := blk_frozen BK267.out 3; have hfz29_4 := blk_frozen BK267.out 4) | ((with_reducible refine gate_callee (f := 28) rfl ?_); refine goesL_ (some 42) rfl rfl Tryz.func28 (by kernel_rfl) rfl #[.agg #[.int .i64 ((rd_T42 l0 x37_1).f0), .int .i64 ((rd_T42 l0 x37_1).f1), .int .i64 ((rd_T42 l0 x37_1).f2), .string ((rd_T42 l0 x37_1).f3), .slice A266_4 ((rd_T42 l0 x37_1).f4).length c266_4]] rfl (by (try simp only [List.map_toArray, List.map_cons, List.map_nil]); first | done | rfl | (simp only [List.length_drop, List.length_take]; rfl)) ?_; (with_reducible refine (laws_drawMade.calls k1 ((rd_T42 l0 x37_1).f0) ((rd_T42 l0 x37_1).f1) ((rd_T42 l0 x37_1).f2) ((rd_T42 l0 x37_1).f3) _ _ ((rd_T42 l0 x37_1).f4) t268 _ ?side3 ?side1 ?side2 A24.out).mono ?_); (case side1 => exact Kd.C_below HR266_4.out (by repeat (first | (with_reducible first | exact HB.out | apply below_alloc | apply pw_below_drewN | apply below_drew1 | refine below_set ?_ GE267.out) | exact HB.out))); (case side2 => exact HC266_4.out); (case side3 => exact XTab.below HT.out (by repeat (first | (with_reducible first | exact HB.out | apply below_alloc | apply pw_below_drewN | apply below_drew1 | refine below_set ?_ GE267.out) | exact HB.out))); rintro e w30 ⟨rfl, hb⟩; refine ⟨_, rfl, ?_⟩; have n0_ := Aside0.mk (Kd.N_below (by (with_reducible repeat (first | apply Kd.N_alloc | apply Kd.N_drewN | apply Kd.N_drew)); exact (Kd.N_mono (Kd.N_far (p := ⟨gb267, 4, none⟩) (Kd.N_far (p := ⟨gb267, 3, none⟩) (Kd.N_far (p := ⟨gb267, 2, none⟩) (Kd.N_far (p := ⟨gb267, 1, none⟩) (Kd.N_far (p := ⟨gb267, 0, none⟩) (Kd.N_mono HO_7.out (fun k_ hk => (⟨hk, hk.2⟩ : _ ∧ k_ ≠ gb267))) (fun _ hk => hk.2) (.int .i64 ((rd_T42 l0 x37_1).f0))) (fun _ hk => hk.2) (.int .i64 ((rd_T42 l0 x37_1).f1))) (fun _ hk => hk.2) (.int .i64 ((rd_T42 l0 x37_1).f2))) (fun _ hk => hk.2) (.string ((rd_T42 l0 x37_1).f3))) (fun _ hk => hk.2) (.slice A266_4 ((rd_T42 l0 x37_1).f4).length c266_4)) (fun _ h_ => h_.1))) hb); have n1_ := Aside0.mk (Kd.N_below (by (with_reducible repeat (first | apply Kd.N_alloc | apply Kd.N_drewN | apply Kd.N_drew)); exact (Kd.N_mono (Kd.N_far (p := ⟨gb267, 4, none⟩) (Kd.N_far (p := ⟨gb267, 3, none⟩) (Kd.N_far (p := ⟨gb267, 2, none⟩) (Kd.N_far (p := ⟨gb267, 1, none⟩) (Kd.N_far (p := ⟨gb267, 0, none⟩) (Kd.N_mono HO_8.out (fun k_ hk => (⟨hk, hk.2⟩ : _ ∧ k_ ≠ gb267))) (fun _ hk => hk.2) (.int .i64 ((rd_T42 l0 x37_1).f0))) (fun _ hk => hk.2) (.int .i64 ((rd_T42 l0 x37_1).f1))) (fun _ hk => hk.2) (.int .i64 ((rd_T42 l0 x37_1).f2))) (fun _ hk => hk.2) (.string ((rd_T42 l0 x37_1).f3))) (fun _ hk => hk.2) (.slice A266_4 ((rd_T42 l0 x37_1).f4).length c266_4)) (fun _ h_ => h_.1))) hb); have n2_ := Aside0.mk (blk_below (g := gb267) (o := .cells #[.int .i64 ((rd_T42 l0 x37_1).f0), .int .i64 ((rd_T42 l0 x37_1).f1), .int .i64 ((rd_T42 l0 x37_1).f2), .string ((rd_T42 l0 x37_1).f3), .slice A266_4 ((rd_T42 l0 x37_1).f4).length c266_4] 42 (0, 0)) (by (with_reducible repeat (first | refine blk_drewN ?_ _ | refine blk_drew ?_ | refine blk_alloc ?_ _)); refine blk_put (cs := #[.int .i64 ((rd_T42 l0 x37_1).f0), .int .i64 ((rd_T42 l0 x37_1).f1), .int .i64 ((rd_T42 l0 x37_1).f2), .string ((rd_T42 l0 x37_1).f3), .slice none 0 0]) ?_ 4 _ rfl; (with_reducible repeat (first | refine blk_drewN ?_ _ | refine blk_drew ?_ | refine blk_alloc ?_ _)); refine blk_put (cs := #[.int .i64 ((rd_T42 l0 x37_1).f0), .int .i64 ((rd_T42 l0 x37_1).f1), .int .i64 ((rd_T42 l0 x37_1).f2), .string (⟨#[]⟩ : ByteArray), .slice none 0 0]) ?_ 3 _ rfl; (with_reducible repeat (first | refine blk_drewN ?_ _ | refine blk_drew ?_ | refine blk_alloc ?_ _)); refine blk_put (cs := #[.int .i64 ((rd_T42 l0 x37_1).f0), .int .i64 ((rd_T42 l0 x37_1).f1), .int .i64 0, .string (⟨#[]⟩ : ByteArray), .slice none 0 0]) ?_ 2 _ rfl; (with_reducible repeat (first | refine blk_drewN ?_ _ | refine blk_drew ?_ | refine blk_alloc ?_ _)); refine blk_put (cs := #[.int .i64 ((rd_T42 l0 x37_1).f0), .int .i64 0, .int .i64 0, .string (⟨#[]⟩ : ByteArray), .slice none 0 0]) ?_ 1 _ rfl; (with_reducible repeat (first | refine blk_drewN ?_ _ | refine blk_drew ?_ | refine blk_alloc ?_ _)); refine blk_put (cs := #[.int .i64 0, .int .i64 0, .int .i64 0, .string (⟨#[]⟩ : ByteArray), .slice none 0 0]) ?_ 0 _ rfl; (with_reducible repeat (first | refine blk_drewN ?_ _ | refine blk_drew ?_ | refine blk_alloc ?_ _)); exact BK267.out) hb); have n3_ := Aside0.mk (below_step (by repeat (first | (with_reducible first | exact HB.out | apply below_alloc | apply pw_below_drewN | apply below_drew1 | refine below_set ?_ GE267.out) | exact HB.out)) hb); clear HO_7; clear HO_8; clear BK267; clear HB; have HO_7 := n0_; have HO_8 := n1_; have BK267 := n2_; have HB := n3_; clear n0_ n1_ n2_ n3_; (try clear hb); (try clear hb2); (try clear hk); (try clear hi); have hcz31_0 : w30.cell? ⟨gb267, 0, none⟩ = some (.int .i64 ((rd_T42 l0 x37_1).f0)) := (blk_cell BK267.out 0).trans rfl; have hcz31_1 : w30.cell? ⟨gb267, 1, none⟩ = some (.int .i64 ((rd_T42 l0 x37_1).f1)) := (blk_cell BK267.out 1).trans rfl; have hcz31_2 : w30.cell? ⟨gb267, 2, none⟩ = some (.int .i64 ((rd_T42 l0 x37_1).f2)) := (blk_cell BK267.out 2).trans rfl; have hcz31_3 : w30.cell? ⟨gb267, 3, none⟩ = some (.string ((rd_T42 l0 x37_1).f3)) := (blk_cell BK267.out 3).trans rfl; have hcz31_4 : w30.cell? ⟨gb267, 4, none⟩ = some (.slice A266_4 ((rd_T42 l0 x37_1).f4).length c266_4) := (blk_cell BK267.out 4).trans rfl; have hfz31_0 := blk_frozen BK267.out 0; have hfz31_1 := blk_frozen BK267.out 1; have hfz31_2 := blk_frozen BK267.out 2; have hfz31_3 := blk_frozen BK267.out 3; have hfz31_4 := blk_frozen BK267.out 4))
                        go_roundg k1
                        case measure => have := HK1.out; omega
                        case rel => exact ⟨(wrap64 (x9_1 + (t268.size : Int))), (wrap64 (x10_1 + (ji27))), (wrap64 (x37_1 + 1)), (by first | rfl | (simp; done) | (simp [*]; done)), (by first | rfl | (simp; done) | (simp only [← hji27] <;> (first | rfl | simp)) | (simp [*]; done)), (by first | rfl | (simp; done) | (simp [*]; done)), H', ⟨by have := HK1.out; omega⟩, ⟨by (with_reducible repeat (first | apply Kd.N_alloc | apply Kd.N_drewN | apply Kd.N_drew)); exact Kd.N_mono HO_7.out (fun _ hk => hk.1)⟩, ⟨by (with_reducible repeat (first | apply Kd.N_alloc | apply Kd.N_drewN | apply Kd.N_drew)); exact Kd.N_mono HO_8.out (fun _ hk => hk.1)⟩, ⟨by repeat (first | (with_reducible first | exact HB.out | apply below_alloc | apply pw_below_drewN | apply below_drew1 | refine below_set ?_ GE267.out) | exact HB.out)⟩⟩
                      · rw [if_neg c25] at H
                        have c25b0 : (((rd_T42 l0 x37_1).f0) == 60) = false := beq_eq_false_iff_ne.mpr c25
                        have c25b1 : (((rd_T42 l0 x37_1).f0) != 60) = true := bne_iff_ne.mpr c25
                        by_cases c32 : (wrap64 (x9_1 + (t268.size : Int))) ≤ ji10
                        · rw [if_pos c32] at H
                          have c32b0 : decide ((wrap64 (x9_1 + (t268.size : Int))) ≤ ji10) = true := decide_eq_true c32
                          clear c32
                          have H' := Aside0.mk H
                          clear H
                          have p266 : 0 ≤ (x37_1 : Int) := of_decide_eq_true (by first | (with_reducible assumption) | assumption)
                          have q266 : x37_1 < (l0.length : Int) := of_decide_eq_true (by first | (with_reducible assumption) | assumption)
                          obtain ⟨ad266, A266_4, c266_4, e266, hx266_0, hx266_1, hx266_2, hx266_3, hx266_4, hl266_4, hi266_4⟩ := at_T42 HR0.out x37_1 p266 q266
                          cases e266
                          replace hx266_0 := (HB.out.cell (World.block_lt_of_cell? w _ hx266_0)).trans hx266_0
                          replace hx266_1 := (HB.out.cell (World.block_lt_of_cell? w _ hx266_1)).trans hx266_1
                          replace hx266_2 := (HB.out.cell (World.block_lt_of_cell? w _ hx266_2)).trans hx266_2
                          replace hx266_3 := (HB.out.cell (World.block_lt_of_cell? w _ hx266_3)).trans hx266_3
                          replace hx266_4 := (HB.out.cell (World.block_lt_of_cell? w _ hx266_4)).trans hx266_4
                          have HR266_4 := Aside0.mk hi266_4
                          have HC266_4 := Aside0.mk hl266_4
                          clear hi266_4 hl266_4
                          replace p266 := eq_true p266
                          replace q266 := eq_true q266
                          go_wp2_with (first | ((with_reducible refine gate_dst (N := 12) rfl ?_); (try (refine gate_guard (by rfl) ?_; dsimp only)); refine box_event ?hg (N := 12) ?hd (cs := #[.int .i64 0, .int .i64 0, .int .i64 0, .string (⟨#[]⟩ : ByteArray), .slice none 0 0]) (t := 42) ?hr ?_; (case hd => rfl); (case hg => rfl); (case hr => first | (go_simp; done) | (go_simp; rfl)); intro gb267 hg w33 hbox hb; have n0_ := Aside0.mk (Kd.N_below (Kd.N_elderB (by (with_reducible repeat (first | apply Kd.N_alloc | apply Kd.N_drewN | apply Kd.N_drew)); exact HO_7.out) gb267 (Nat.le_of_eq hg.symm)) hb); have n1_ := Aside0.mk (Kd.N_below (Kd.N_elderB (by (with_reducible repeat (first | apply Kd.N_alloc | apply Kd.N_drewN | apply Kd.N_drew)); exact HO_8.out) gb267 (Nat.le_of_eq hg.symm)) hb); have n2_ := Aside0.mk (below_step (by repeat (first | (with_reducible first | exact HB.out | apply below_alloc | apply pw_below_drewN | apply below_drew1) | exact HB.out)) hb); have n3_ := Aside0.mk (hbox); have n4_ := Aside0.mk ((by rw [hg]; exact (below_size (by repeat (first | (with_reducible first | exact HB.out | apply below_alloc | apply pw_below_drewN | apply below_drew1) | exact HB.out))) : w.heap.size ≤ gb267)); have n5_ := Aside0.mk ((by rw [hg]; exact (below_size (by repeat (first | (with_reducible first | exact HB.out | apply below_alloc | apply pw_below_drewN | apply below_drew1) | exact HB.out))) : w.heap.size ≤ gb267)); clear HO_7; clear HO_8; clear HB; have HO_7 := n0_; have HO_8 := n1_; have HB := n2_; have BK267 := n3_; have GW267 := n4_; have GE267 := n5_; clear n0_ n1_ n2_ n3_ n4_ n5_; clear hb hbox hg; have hcz34_0 : w33.cell? ⟨gb267, 0, none⟩ = some (.int .i64 0) := (blk_cell BK267.out 0).trans rfl; have hcz34_1 : w33.cell? ⟨gb267, 1, none⟩ = some (.int .i64 0) := (blk_cell BK267.out 1).trans rfl; have hcz34_2 : w33.cell? ⟨gb267, 2, none⟩ = some (.int .i64 0) := (blk_cell BK267.out 2).trans rfl; have hcz34_3 : w33.cell? ⟨gb267, 3, none⟩ = some (.string (⟨#[]⟩ : ByteArray)) := (blk_cell BK267.out 3).trans rfl; have hcz34_4 : w33.cell? ⟨gb267, 4, none⟩ = some (.slice none 0 0) := (blk_cell BK267.out 4).trans rfl; have hfz34_0 := blk_frozen BK267.out 0; have hfz34_1 := blk_frozen BK267.out 1; have hfz34_2 := blk_frozen BK267.out 2; have hfz34_3 := blk_frozen BK267.out 3; have hfz34_4 := blk_frozen BK267.out 4) | ((with_reducible refine gate_callee (f := 28) rfl ?_); refine goesL_ (some 42) rfl rfl Tryz.func28 (by kernel_rfl) rfl #[.agg #[.int .i64 ((rd_T42 l0 x37_1).f0), .int .i64 ((rd_T42 l0 x37_1).f1), .int .i64 ((rd_T42 l0 x37_1).f2), .string ((rd_T42 l0 x37_1).f3), .slice A266_4 ((rd_T42 l0 x37_1).f4).length c266_4]] rfl (by (try simp only [List.map_toArray, List.map_cons, List.map_nil]); first | done | rfl | (simp only [List.length_drop, List.length_take]; rfl)) ?_; (with_reducible refine (laws_drawMade.calls k1 ((rd_T42 l0 x37_1).f0) ((rd_T42 l0 x37_1).f1) ((rd_T42 l0 x37_1).f2) ((rd_T42 l0 x37_1).f3) _ _ ((rd_T42 l0 x37_1).f4) t268 _ ?side3 ?side1 ?side2 A24.out).mono ?_); (case side1 => exact Kd.C_below HR266_4.out (by repeat (first | (with_reducible first | exact HB.out | apply below_alloc | apply pw_below_drewN | apply below_drew1 | refine below_set ?_ GE267.out) | exact HB.out))); (case side2 => exact HC266_4.out); (case side3 => exact XTab.below HT.out (by repeat (first | (with_reducible first | exact HB.out | apply below_alloc | apply pw_below_drewN | apply below_drew1 | refine below_set ?_ GE267.out) | exact HB.out))); rintro e w35 ⟨rfl, hb⟩; refine ⟨_, rfl, ?_⟩; have n0_ := Aside0.mk (Kd.N_below (by (with_reducible repeat (first | apply Kd.N_alloc | apply Kd.N_drewN | apply Kd.N_drew)); exact (Kd.N_mono (Kd.N_far (p := ⟨gb267, 4, none⟩) (Kd.N_far (p := ⟨gb267, 3, none⟩) (Kd.N_far (p := ⟨gb267, 2, none⟩) (Kd.N_far (p := ⟨gb267, 1, none⟩) (Kd.N_far (p := ⟨gb267, 0, none⟩) (Kd.N_mono HO_7.out (fun k_ hk => (⟨hk, hk.2⟩ : _ ∧ k_ ≠ gb267))) (fun _ hk => hk.2) (.int .i64 ((rd_T42 l0 x37_1).f0))) (fun _ hk => hk.2) (.int .i64 ((rd_T42 l0 x37_1).f1))) (fun _ hk => hk.2) (.int .i64 ((rd_T42 l0 x37_1).f2))) (fun _ hk => hk.2) (.string ((rd_T42 l0 x37_1).f3))) (fun _ hk => hk.2) (.slice A266_4 ((rd_T42 l0 x37_1).f4).length c266_4)) (fun _ h_ => h_.1))) hb); have n1_ := Aside0.mk (Kd.N_below (by (with_reducible repeat (first | apply Kd.N_alloc | apply Kd.N_drewN | apply Kd.N_drew)); exact (Kd.N_mono (Kd.N_far (p := ⟨gb267, 4, none⟩) (Kd.N_far (p := ⟨gb267, 3, none⟩) (Kd.N_far (p := ⟨gb267, 2, none⟩) (Kd.N_far (p := ⟨gb267, 1, none⟩) (Kd.N_far (p := ⟨gb267, 0, none⟩) (Kd.N_mono HO_8.out (fun k_ hk => (⟨hk, hk.2⟩ : _ ∧ k_ ≠ gb267))) (fun _ hk => hk.2) (.int .i64 ((rd_T42 l0 x37_1).f0))) (fun _ hk => hk.2) (.int .i64 ((rd_T42 l0 x37_1).f1))) (fun _ hk => hk.2) (.int .i64 ((rd_T42 l0 x37_1).f2))) (fun _ hk => hk.2) (.string ((rd_T42 l0 x37_1).f3))) (fun _ hk => hk.2) (.slice A266_4 ((rd_T42 l0 x37_1).f4).length c266_4)) (fun _ h_ => h_.1))) hb); have n2_ := Aside0.mk (blk_below (g := gb267) (o := .cells #[.int .i64 ((rd_T42 l0 x37_1).f0), .int .i64 ((rd_T42 l0 x37_1).f1), .int .i64 ((rd_T42 l0 x37_1).f2), .string ((rd_T42 l0 x37_1).f3), .slice A266_4 ((rd_T42 l0 x37_1).f4).length c266_4] 42 (0, 0)) (by (with_reducible repeat (first | refine blk_drewN ?_ _ | refine blk_drew ?_ | refine blk_alloc ?_ _)); refine blk_put (cs := #[.int .i64 ((rd_T42 l0 x37_1).f0), .int .i64 ((rd_T42 l0 x37_1).f1), .int .i64 ((rd_T42 l0 x37_1).f2), .string ((rd_T42 l0 x37_1).f3), .slice none 0 0]) ?_ 4 _ rfl; (with_reducible repeat (first | refine blk_drewN ?_ _ | refine blk_drew ?_ | refine blk_alloc ?_ _)); refine blk_put (cs := #[.int .i64 ((rd_T42 l0 x37_1).f0), .int .i64 ((rd_T42 l0 x37_1).f1), .int .i64 ((rd_T42 l0 x37_1).f2), .string (⟨#[]⟩ : ByteArray), .slice none 0 0]) ?_ 3 _ rfl; (with_reducible repeat (first | refine blk_drewN ?_ _ | refine blk_drew ?_ | refine blk_alloc ?_ _)); refine blk_put (cs := #[.int .i64 ((rd_T42 l0 x37_1).f0), .int .i64 ((rd_T42 l0 x37_1).f1), .int .i64 0, .string (⟨#[]⟩ : ByteArray), .slice none 0 0]) ?_ 2 _ rfl; (with_reducible repeat (first | refine blk_drewN ?_ _ | refine blk_drew ?_ | refine blk_alloc ?_ _)); refine blk_put (cs := #[.int .i64 ((rd_T42 l0 x37_1).f0), .int .i64 0, .int .i64 0, .string (⟨#[]⟩ : ByteArray), .slice none 0 0]) ?_ 1 _ rfl; (with_reducible repeat (first | refine blk_drewN ?_ _ | refine blk_drew ?_ | refine blk_alloc ?_ _)); refine blk_put (cs := #[.int .i64 0, .int .i64 0, .int .i64 0, .string (⟨#[]⟩ : ByteArray), .slice none 0 0]) ?_ 0 _ rfl; (with_reducible repeat (first | refine blk_drewN ?_ _ | refine blk_drew ?_ | refine blk_alloc ?_ _)); exact BK267.out) hb); have n3_ := Aside0.mk (below_step (by repeat (first | (with_reducible first | exact HB.out | apply below_alloc | apply pw_below_drewN | apply below_drew1 | refine below_set ?_ GE267.out) | exact HB.out)) hb); clear HO_7; clear HO_8; clear BK267; clear HB; have HO_7 := n0_; have HO_8 := n1_; have BK267 := n2_; have HB := n3_; clear n0_ n1_ n2_ n3_; (try clear hb); (try clear hb2); (try clear hk); (try clear hi); have hcz36_0 : w35.cell? ⟨gb267, 0, none⟩ = some (.int .i64 ((rd_T42 l0 x37_1).f0)) := (blk_cell BK267.out 0).trans rfl; have hcz36_1 : w35.cell? ⟨gb267, 1, none⟩ = some (.int .i64 ((rd_T42 l0 x37_1).f1)) := (blk_cell BK267.out 1).trans rfl; have hcz36_2 : w35.cell? ⟨gb267, 2, none⟩ = some (.int .i64 ((rd_T42 l0 x37_1).f2)) := (blk_cell BK267.out 2).trans rfl; have hcz36_3 : w35.cell? ⟨gb267, 3, none⟩ = some (.string ((rd_T42 l0 x37_1).f3)) := (blk_cell BK267.out 3).trans rfl; have hcz36_4 : w35.cell? ⟨gb267, 4, none⟩ = some (.slice A266_4 ((rd_T42 l0 x37_1).f4).length c266_4) := (blk_cell BK267.out 4).trans rfl; have hfz36_0 := blk_frozen BK267.out 0; have hfz36_1 := blk_frozen BK267.out 1; have hfz36_2 := blk_frozen BK267.out 2; have hfz36_3 := blk_frozen BK267.out 3; have hfz36_4 := blk_frozen BK267.out 4))
                          go_roundg k1
                          case measure => have := HK1.out; omega
                          case rel => exact ⟨(wrap64 (x9_1 + (t268.size : Int))), (wrap64 (x10_1 + 1)), (wrap64 (x37_1 + 1)), (by first | rfl | (simp; done) | (simp [*]; done)), (by first | rfl | (simp; done) | (simp [*]; done)), (by first | rfl | (simp; done) | (simp [*]; done)), H', ⟨by have := HK1.out; omega⟩, ⟨by (with_reducible repeat (first | apply Kd.N_alloc | apply Kd.N_drewN | apply Kd.N_drew)); exact Kd.N_mono HO_7.out (fun _ hk => hk.1)⟩, ⟨by (with_reducible repeat (first | apply Kd.N_alloc | apply Kd.N_drewN | apply Kd.N_drew)); exact Kd.N_mono HO_8.out (fun _ hk => hk.1)⟩, ⟨by repeat (first | (with_reducible first | exact HB.out | apply below_alloc | apply pw_below_drewN | apply below_drew1 | refine below_set ?_ GE267.out) | exact HB.out)⟩⟩
                        · rw [if_neg c32] at H
                          have c32b0 : decide ((wrap64 (x9_1 + (t268.size : Int))) ≤ ji10) = false := decide_eq_false c32
                          clear c32
                          have H' := Aside0.mk H
                          clear H
                          have p266 : 0 ≤ (x37_1 : Int) := of_decide_eq_true (by first | (with_reducible assumption) | assumption)
                          have q266 : x37_1 < (l0.length : Int) := of_decide_eq_true (by first | (with_reducible assumption) | assumption)
                          obtain ⟨ad266, A266_4, c266_4, e266, hx266_0, hx266_1, hx266_2, hx266_3, hx266_4, hl266_4, hi266_4⟩ := at_T42 HR0.out x37_1 p266 q266
                          cases e266
                          replace hx266_0 := (HB.out.cell (World.block_lt_of_cell? w _ hx266_0)).trans hx266_0
                          replace hx266_1 := (HB.out.cell (World.block_lt_of_cell? w _ hx266_1)).trans hx266_1
                          replace hx266_2 := (HB.out.cell (World.block_lt_of_cell? w _ hx266_2)).trans hx266_2
                          replace hx266_3 := (HB.out.cell (World.block_lt_of_cell? w _ hx266_3)).trans hx266_3
                          replace hx266_4 := (HB.out.cell (World.block_lt_of_cell? w _ hx266_4)).trans hx266_4
                          have HR266_4 := Aside0.mk hi266_4
                          have HC266_4 := Aside0.mk hl266_4
                          clear hi266_4 hl266_4
                          replace p266 := eq_true p266
                          replace q266 := eq_true q266
                          go_wp2_with (first | ((with_reducible refine gate_dst (N := 12) rfl ?_); (try (refine gate_guard (by rfl) ?_; dsimp only)); refine box_event ?hg (N := 12) ?hd (cs := #[.int .i64 0, .int .i64 0, .int .i64 0, .string (⟨#[]⟩ : ByteArray), .slice none 0 0]) (t := 42) ?hr ?_; (case hd => rfl); (case hg => rfl); (case hr => first | (go_simp; done) | (go_simp; rfl)); intro gb267 hg w37 hbox hb; have n0_ := Aside0.mk (Kd.N_below (Kd.N_elderB (by (with_reducible repeat (first | apply Kd.N_alloc | apply Kd.N_drewN | apply Kd.N_drew)); exact HO_7.out) gb267 (Nat.le_of_eq hg.symm)) hb); have n1_ := Aside0.mk (Kd.N_below (Kd.N_elderB (by (with_reducible repeat (first | apply Kd.N_alloc | apply Kd.N_drewN | apply Kd.N_drew)); exact HO_8.out) gb267 (Nat.le_of_eq hg.symm)) hb); have n2_ := Aside0.mk (below_step (by repeat (first | (with_reducible first | exact HB.out | apply below_alloc | apply pw_below_drewN | apply below_drew1) | exact HB.out)) hb); have n3_ := Aside0.mk (hbox); have n4_ := Aside0.mk ((by rw [hg]; exact (below_size (by repeat (first | (with_reducible first | exact HB.out | apply below_alloc | apply pw_below_drewN | apply below_drew1) | exact HB.out))) : w.heap.size ≤ gb267)); have n5_ := Aside0.mk ((by rw [hg]; exact (below_size (by repeat (first | (with_reducible first | exact HB.out | apply below_alloc | apply pw_below_drewN | apply below_drew1) | exact HB.out))) : w.heap.size ≤ gb267)); clear HO_7; clear HO_8; clear HB; have HO_7 := n0_; have HO_8 := n1_; have HB := n2_; have BK267 := n3_; have GW267 := n4_; have GE267 := n5_; clear n0_ n1_ n2_ n3_ n4_ n5_; clear hb hbox hg; have hcz38_0 : w37.cell? ⟨gb267, 0, none⟩ = some (.int .i64 0) := (blk_cell BK267.out 0).trans rfl; have hcz38_1 : w37.cell? ⟨gb267, 1, none⟩ = some (.int .i64 0) := (blk_cell BK267.out 1).trans rfl; have hcz38_2 : w37.cell? ⟨gb267, 2, none⟩ = some (.int .i64 0) := (blk_cell BK267.out 2).trans rfl; have hcz38_3 : w37.cell? ⟨gb267, 3, none⟩ = some (.string (⟨#[]⟩ : ByteArray)) := (blk_cell BK267.out 3).trans rfl; have hcz38_4 : w37.cell? ⟨gb267, 4, none⟩ = some (.slice none 0 0) := (blk_cell BK267.out 4).trans rfl; have hfz38_0 := blk_frozen BK267.out 0; have hfz38_1 := blk_frozen BK267.out 1; have hfz38_2 := blk_frozen BK267.out 2; have hfz38_3 := blk_frozen BK267.out 3; have hfz38_4 := blk_frozen BK267.out 4) | ((with_reducible refine gate_callee (f := 28) rfl ?_); refine goesL_ (some 42) rfl rfl Tryz.func28 (by kernel_rfl) rfl #[.agg #[.int .i64 ((rd_T42 l0 x37_1).f0), .int .i64 ((rd_T42 l0 x37_1).f1), .int .i64 ((rd_T42 l0 x37_1).f2), .string ((rd_T42 l0 x37_1).f3), .slice A266_4 ((rd_T42 l0 x37_1).f4).length c266_4]] rfl (by (try simp only [List.map_toArray, List.map_cons, List.map_nil]); first | done | rfl | (simp only [List.length_drop, List.length_take]; rfl)) ?_; (with_reducible refine (laws_drawMade.calls k1 ((rd_T42 l0 x37_1).f0) ((rd_T42 l0 x37_1).f1) ((rd_T42 l0 x37_1).f2) ((rd_T42 l0 x37_1).f3) _ _ ((rd_T42 l0 x37_1).f4) t268 _ ?side3 ?side1 ?side2 A24.out).mono ?_); (case side1 => exact Kd.C_below HR266_4.out (by repeat (first | (with_reducible first | exact HB.out | apply below_alloc | apply pw_below_drewN | apply below_drew1 | refine below_set ?_ GE267.out) | exact HB.out))); (case side2 => exact HC266_4.out); (case side3 => exact XTab.below HT.out (by repeat (first | (with_reducible first | exact HB.out | apply below_alloc | apply pw_below_drewN | apply below_drew1 | refine below_set ?_ GE267.out) | exact HB.out))); rintro e w39 ⟨rfl, hb⟩; refine ⟨_, rfl, ?_⟩; have n0_ := Aside0.mk (Kd.N_below (by (with_reducible repeat (first | apply Kd.N_alloc | apply Kd.N_drewN | apply Kd.N_drew)); exact (Kd.N_mono (Kd.N_far (p := ⟨gb267, 4, none⟩) (Kd.N_far (p := ⟨gb267, 3, none⟩) (Kd.N_far (p := ⟨gb267, 2, none⟩) (Kd.N_far (p := ⟨gb267, 1, none⟩) (Kd.N_far (p := ⟨gb267, 0, none⟩) (Kd.N_mono HO_7.out (fun k_ hk => (⟨hk, hk.2⟩ : _ ∧ k_ ≠ gb267))) (fun _ hk => hk.2) (.int .i64 ((rd_T42 l0 x37_1).f0))) (fun _ hk => hk.2) (.int .i64 ((rd_T42 l0 x37_1).f1))) (fun _ hk => hk.2) (.int .i64 ((rd_T42 l0 x37_1).f2))) (fun _ hk => hk.2) (.string ((rd_T42 l0 x37_1).f3))) (fun _ hk => hk.2) (.slice A266_4 ((rd_T42 l0 x37_1).f4).length c266_4)) (fun _ h_ => h_.1))) hb); have n1_ := Aside0.mk (Kd.N_below (by (with_reducible repeat (first | apply Kd.N_alloc | apply Kd.N_drewN | apply Kd.N_drew)); exact (Kd.N_mono (Kd.N_far (p := ⟨gb267, 4, none⟩) (Kd.N_far (p := ⟨gb267, 3, none⟩) (Kd.N_far (p := ⟨gb267, 2, none⟩) (Kd.N_far (p := ⟨gb267, 1, none⟩) (Kd.N_far (p := ⟨gb267, 0, none⟩) (Kd.N_mono HO_8.out (fun k_ hk => (⟨hk, hk.2⟩ : _ ∧ k_ ≠ gb267))) (fun _ hk => hk.2) (.int .i64 ((rd_T42 l0 x37_1).f0))) (fun _ hk => hk.2) (.int .i64 ((rd_T42 l0 x37_1).f1))) (fun _ hk => hk.2) (.int .i64 ((rd_T42 l0 x37_1).f2))) (fun _ hk => hk.2) (.string ((rd_T42 l0 x37_1).f3))) (fun _ hk => hk.2) (.slice A266_4 ((rd_T42 l0 x37_1).f4).length c266_4)) (fun _ h_ => h_.1))) hb); have n2_ := Aside0.mk (blk_below (g := gb267) (o := .cells #[.int .i64 ((rd_T42 l0 x37_1).f0), .int .i64 ((rd_T42 l0 x37_1).f1), .int .i64 ((rd_T42 l0 x37_1).f2), .string ((rd_T42 l0 x37_1).f3), .slice A266_4 ((rd_T42 l0 x37_1).f4).length c266_4] 42 (0, 0)) (by (with_reducible repeat (first | refine blk_drewN ?_ _ | refine blk_drew ?_ | refine blk_alloc ?_ _)); refine blk_put (cs := #[.int .i64 ((rd_T42 l0 x37_1).f0), .int .i64 ((rd_T42 l0 x37_1).f1), .int .i64 ((rd_T42 l0 x37_1).f2), .string ((rd_T42 l0 x37_1).f3), .slice none 0 0]) ?_ 4 _ rfl; (with_reducible repeat (first | refine blk_drewN ?_ _ | refine blk_drew ?_ | refine blk_alloc ?_ _)); refine blk_put (cs := #[.int .i64 ((rd_T42 l0 x37_1).f0), .int .i64 ((rd_T42 l0 x37_1).f1), .int .i64 ((rd_T42 l0 x37_1).f2), .string (⟨#[]⟩ : ByteArray), .slice none 0 0]) ?_ 3 _ rfl; (with_reducible repeat (first | refine blk_drewN ?_ _ | refine blk_drew ?_ | refine blk_alloc ?_ _)); refine blk_put (cs := #[.int .i64 ((rd_T42 l0 x37_1).f0), .int .i64 ((rd_T42 l0 x37_1).f1), .int .i64 0, .string (⟨#[]⟩ : ByteArray), .slice none 0 0]) ?_ 2 _ rfl; (with_reducible repeat (first | refine blk_drewN ?_ _ | refine blk_drew ?_ | refine blk_alloc ?_ _)); refine blk_put (cs := #[.int .i64 ((rd_T42 l0 x37_1).f0), .int .i64 0, .int .i64 0, .string (⟨#[]⟩ : ByteArray), .slice none 0 0]) ?_ 1 _ rfl; (with_reducible repeat (first | refine blk_drewN ?_ _ | refine blk_drew ?_ | refine blk_alloc ?_ _)); refine blk_put (cs := #[.int .i64 0, .int .i64 0, .int .i64 0, .string (⟨#[]⟩ : ByteArray), .slice none 0 0]) ?_ 0 _ rfl; (with_reducible repeat (first | refine blk_drewN ?_ _ | refine blk_drew ?_ | refine blk_alloc ?_ _)); exact BK267.out) hb); have n3_ := Aside0.mk (below_step (by repeat (first | (with_reducible first | exact HB.out | apply below_alloc | apply pw_below_drewN | apply below_drew1 | refine below_set ?_ GE267.out) | exact HB.out)) hb); clear HO_7; clear HO_8; clear BK267; clear HB; have HO_7 := n0_; have HO_8 := n1_; have BK267 := n2_; have HB := n3_; clear n0_ n1_ n2_ n3_; (try clear hb); (try clear hb2); (try clear hk); (try clear hi); have hcz40_0 : w39.cell? ⟨gb267, 0, none⟩ = some (.int .i64 ((rd_T42 l0 x37_1).f0)) := (blk_cell BK267.out 0).trans rfl; have hcz40_1 : w39.cell? ⟨gb267, 1, none⟩ = some (.int .i64 ((rd_T42 l0 x37_1).f1)) := (blk_cell BK267.out 1).trans rfl; have hcz40_2 : w39.cell? ⟨gb267, 2, none⟩ = some (.int .i64 ((rd_T42 l0 x37_1).f2)) := (blk_cell BK267.out 2).trans rfl; have hcz40_3 : w39.cell? ⟨gb267, 3, none⟩ = some (.string ((rd_T42 l0 x37_1).f3)) := (blk_cell BK267.out 3).trans rfl; have hcz40_4 : w39.cell? ⟨gb267, 4, none⟩ = some (.slice A266_4 ((rd_T42 l0 x37_1).f4).length c266_4) := (blk_cell BK267.out 4).trans rfl; have hfz40_0 := blk_frozen BK267.out 0; have hfz40_1 := blk_frozen BK267.out 1; have hfz40_2 := blk_frozen BK267.out 2; have hfz40_3 := blk_frozen BK267.out 3; have hfz40_4 := blk_frozen BK267.out 4))
                          go_roundg k1
                          case measure => have := HK1.out; omega
                          case rel => exact ⟨(wrap64 (x9_1 + (t268.size : Int))), (x10_1), (wrap64 (x37_1 + 1)), (by first | rfl | (simp; done) | (simp [*]; done)), (by first | rfl | (simp; done) | (simp [*]; done)), (by first | rfl | (simp; done) | (simp [*]; done)), H', ⟨by have := HK1.out; omega⟩, ⟨by (with_reducible repeat (first | apply Kd.N_alloc | apply Kd.N_drewN | apply Kd.N_drew)); exact Kd.N_mono HO_7.out (fun _ hk => hk.1)⟩, ⟨by (with_reducible repeat (first | apply Kd.N_alloc | apply Kd.N_drewN | apply Kd.N_drew)); exact Kd.N_mono HO_8.out (fun _ hk => hk.1)⟩, ⟨by repeat (first | (with_reducible first | exact HB.out | apply below_alloc | apply pw_below_drewN | apply below_drew1 | refine below_set ?_ GE267.out) | exact HB.out)⟩⟩
                    · rw [if_neg c23] at H
                      exact absurd H (by simp)
                  · rw [if_neg c22] at H
                    exact absurd H (by simp)
                · rw [if_neg c21] at H
                  have c21b0 : decide (x37_1 < (l0.length : Int)) = false := decide_eq_false c21
                  clear c21
                  by_cases c41 : (t263.length : Int) = x10_1
                  · rw [if_pos c41] at H
                    have c41b0 : ((t263.length : Int) == x10_1) = true := beq_iff_eq.mpr c41
                    have c41b1 : ((t263.length : Int) != x10_1) = false := bne_eq_false_iff_eq.mpr c41
                    clear c41
                    by_cases c42 : x10_1 ≤ (t255.length : Int)
                    · rw [if_pos c42] at H
                      have c42b0 : decide (x10_1 ≤ (t255.length : Int)) = true := decide_eq_true c42
                      clear c42
                      replace H := Option.bind_eq_some_iff.mp H
                      obtain ⟨t269, A430, H⟩ := H
                      replace H : (if 0 ≤ x10_1 then ((laws_drawEvents.f k1 (t255.take (x10_1 : Int).toNat)).bind fun t277 => ((spec_SameEvents.f t269 t277).bind fun t280 => (if t280 = true then ((laws_drawAwake.f).bind fun t281 => (some t281)) else (some false)))) else (none)) = some r := H
                      have A43 := Aside0.mk A430
                      clear A430
                      by_cases c44 : 0 ≤ x10_1
                      · rw [if_pos c44] at H
                        have c44b0 := eq_true c44
                        have c44b1 : decide (0 ≤ x10_1) = true := decide_eq_true c44
                        clear c44
                        have c45b0 := eq_true (of_decide_eq_true (by first | (with_reducible assumption) | assumption) : x10_1 ≤ (t255.length : Int))
                        obtain ⟨y272, hy272⟩ : ∃ y_ : List (S83), y_ = (t255.take (x10_1 : Int).toNat) := ⟨_, rfl⟩
                        replace H : ((laws_drawEvents.f k1 y272).bind fun t277 => ((spec_SameEvents.f t269 t277).bind fun t280 => (if t280 = true then ((laws_drawAwake.f).bind fun t281 => (some t281)) else (some false)))) = some r := by first | (rw [hy272]; with_reducible exact H) | (have H2_ := (Option.bind_some _ _).symm.trans H; rw [hy272]; with_reducible exact H2_) | (have H2_ := (Option.bind_some _ _).symm.trans H; with_reducible exact H2_) | with_reducible exact H | (rw [hy272]; exact H) | exact H
                        have Ny272 := Aside0.mk hy272
                        clear hy272
                        replace H := Option.bind_eq_some_iff.mp H
                        obtain ⟨t277, A460, H⟩ := H
                        replace H : ((spec_SameEvents.f t269 t277).bind fun t280 => (if t280 = true then ((laws_drawAwake.f).bind fun t281 => (some t281)) else (some false))) = some r := H
                        have A46 := Aside0.mk A460
                        clear A460
                        replace H := Option.bind_eq_some_iff.mp H
                        obtain ⟨t280, A470, H⟩ := H
                        replace H : (if t280 = true then ((laws_drawAwake.f).bind fun t281 => (some t281)) else (some false)) = some r := H
                        have A47 := Aside0.mk A470
                        clear A470
                        by_cases c48 : t280 = true
                        · subst c48
                          have H1 : ((laws_drawAwake.f).bind fun t281 => (some t281)) = some r := by rw [if_pos rfl] at H; exact H
                          clear H
                          have H := H1
                          clear H1
                          replace H := Option.bind_eq_some_iff.mp H
                          obtain ⟨t281, A490, H⟩ := H
                          replace H : (some t281) = some r := H
                          have A49 := Aside0.mk A490
                          clear A490
                          obtain rfl := Option.some.inj H
                          try go_wp2
                          have n0_ := Aside0.mk (Kd.N_drew HO_7.out)
                          have n1_ := Aside0.mk (Kd.N_drew HO_8.out)
                          have n2_ := Aside0.mk (below_drew1 HB.out)
                          clear HO_7
                          clear HO_8
                          clear HB
                          have HO_7 := n0_
                          have HO_8 := n1_
                          have HB := n2_
                          clear n0_ n1_ n2_
                          obtain ⟨Ao51, co51, eo51⟩ := Kd.N_slice HO_8.out
                          (first | subst eo51 | (injection eo51 with f1_ f2_ f3_; have f4_ := f1_.symm; have f5_ := f3_.symm; clear f1_ f2_ f3_; subst f4_; subst f5_))
                          obtain ⟨Ao52, co52, eo52⟩ := Kd.N_slice HO_7.out
                          (first | subst eo52 | (injection eo52 with f1_ f2_ f3_; have f4_ := f1_.symm; have f5_ := f3_.symm; clear f1_ f2_ f3_; subst f4_; subst f5_))
                          have q53 : (x10_1 : Int) ≤ ((t255.length : Int) : Int) := of_decide_eq_true (by first | (with_reducible assumption) | assumption)
                          obtain ⟨i053, hi053, _, hsz53, _⟩ := info_parts info83
                          have hroom53 : t255.length ≤ co52 := (Kd.N_reads' HO_7.out).2.1
                          have hC53 : Kd.F k83 _ _ Ao52 t255.length t255 := (Kd.V_at (base := w.heap.size) (Kd.N_V HO_7.out)).2.2
                          have hcut53 := cut_to (P := Tryz.prog) 28 83 .i64 Tryz.underlying28 hi053 Ao52 t255.length co52 x10_1 (of_decide_eq_true (by first | (with_reducible assumption) | assumption)) q53 hroom53
                          have hr53 := Kd.F_take (m := (x10_1 : Int).toNat) hC53 (by omega)
                          have hy53 : y272.length = (x10_1 : Int).toNat := (by rw [Ny272.out, List.length_take]; omega)
                          rw [← Ny272.out] at hr53
                          rw [← hy53] at hcut53
                          have HO276 := Aside0.mk (show Kd.V k83 83 _ w.heap.size _ (.slice Ao52 y272.length co52) y272 from Kd.V_mk (by omega) hr53)
                          have HC276 := Aside0.mk (show y272.length ≤ co52 from by omega)
                          clear hr53 hC53 hroom53 hi053 hsz53
                          have KY53 := Aside0.mk hy53
                          clear hy53
                          replace q53 := eq_true q53
                          refine start_ (n := 23) (S := fun w' => True) (ds := []) #[false, false, false, false, false, false, false, false, false, false, false, false, false, false, false, false, false, false, false, false, false, false, false] (by kernel_rfl) rfl rfl trivial (fun hHeld => ?_); refine with_tabW laws_FnDrawPrefix.tab20 laws_FnDrawPrefix.bits20 (fun HT_ HW_ => ?_)
                          generalize wr.drew = w50 at HO_7 HO_8 HB HO276 hHeld ⊢
                          refine pure_ (i := 0) (N := some 66) (v := ?_) (a' := ?_) #[true, false, false, false, false, false, false, false, false, false, false, false, false, false, false, false, false, false, false, false, false, false, false] rfl rfl (any_of HT_.out (by kernel_rfl)) (fun _ _ _ h => h) (Or.inl ⟨by rfl, ?_⟩) ?_ ?_
                          rotate_left
                          · intro w'
                            go_simp
                            with_reducible rfl
                          rotate_left
                          · simp only [Act.put, List.setIfInBounds_toArray, List.set_cons_zero, List.set_cons_succ, i64_w, i32_w]
                            rfl
                          refine pure_ (i := 1) (N := some 67) (v := ?_) (a' := ?_) #[true, true, false, false, false, false, false, false, false, false, false, false, false, false, false, false, false, false, false, false, false, false, false] rfl rfl (any_of HT_.out (by kernel_rfl)) (fun _ _ _ h => h) (Or.inl ⟨by rfl, ?_⟩) ?_ ?_
                          rotate_left
                          · intro w'
                            go_simp
                            with_reducible rfl
                          rotate_left
                          · simp only [Act.put, List.setIfInBounds_toArray, List.set_cons_zero, List.set_cons_succ, i64_w, i32_w]
                            rfl
                          refine pure_ (i := 2) (N := some 68) (v := ?_) (a' := ?_) #[true, true, true, false, false, false, false, false, false, false, false, false, false, false, false, false, false, false, false, false, false, false, false] rfl rfl (any_of HT_.out (by kernel_rfl)) (fun _ _ _ h => h) (Or.inl ⟨by rfl, ?_⟩) ?_ ?_
                          rotate_left
                          · intro w'
                            go_simp
                            with_reducible rfl
                          rotate_left
                          · simp only [Act.put, List.setIfInBounds_toArray, List.set_cons_zero, List.set_cons_succ, i64_w, i32_w]
                            rfl
                          refine pure_ (i := 3) (N := some 69) (v := ?_) (a' := ?_) #[true, true, true, true, false, false, false, false, false, false, false, false, false, false, false, false, false, false, false, false, false, false, false] rfl rfl (any_of HT_.out (by kernel_rfl)) (fun _ _ _ h => h) (Or.inl ⟨by rfl, ?_⟩) ?_ ?_
                          rotate_left
                          · intro w'
                            go_simp
                            with_reducible rfl
                          rotate_left
                          · simp only [Act.put, List.setIfInBounds_toArray, List.set_cons_zero, List.set_cons_succ, i64_w, i32_w]
                            rfl
                          refine pure_ (i := 4) (N := some 70) (v := ?_) (a' := ?_) #[true, true, true, true, true, false, false, false, false, false, false, false, false, false, false, false, false, false, false, false, false, false, false] rfl rfl (any_of HT_.out (by kernel_rfl)) (fun _ _ _ h => h) (Or.inl ⟨by rfl, ?_⟩) ?_ ?_
                          rotate_left
                          · intro w'
                            go_simp
                            with_reducible rfl
                          rotate_left
                          · simp only [Act.put, List.setIfInBounds_toArray, List.set_cons_zero, List.set_cons_succ, i64_w, i32_w]
                            rfl
                          refine pure_ (i := 5) (N := some 71) (v := ?_) (a' := ?_) #[true, true, true, true, true, true, false, false, false, false, false, false, false, false, false, false, false, false, false, false, false, false, false] rfl rfl (any_of HT_.out (by kernel_rfl)) (fun _ _ _ h => h) (Or.inl ⟨by rfl, ?_⟩) ?_ ?_
                          rotate_left
                          · intro w'
                            go_simp
                            with_reducible rfl
                          rotate_left
                          · simp only [Act.put, List.setIfInBounds_toArray, List.set_cons_zero, List.set_cons_succ, i64_w, i32_w]
                            rfl
                          refine pure_ (i := 6) (N := some 72) (v := ?_) (a' := ?_) #[true, true, true, true, true, true, true, false, false, false, false, false, false, false, false, false, false, false, false, false, false, false, false] rfl rfl (any_of HT_.out (by kernel_rfl)) (fun _ _ _ h => h) (Or.inl ⟨by rfl, ?_⟩) ?_ ?_
                          rotate_left
                          · intro w'
                            go_simp
                            with_reducible rfl
                          rotate_left
                          · simp only [Act.put, List.setIfInBounds_toArray, List.set_cons_zero, List.set_cons_succ, i64_w, i32_w]
                            rfl
                          refine pure_ (i := 7) (N := some 73) (v := ?_) (a' := ?_) #[true, true, true, true, true, true, true, true, false, false, false, false, false, false, false, false, false, false, false, false, false, false, false] rfl rfl (any_of HT_.out (by kernel_rfl)) (fun _ _ _ h => h) (Or.inl ⟨by rfl, ?_⟩) ?_ ?_
                          rotate_left
                          · intro w'
                            go_simp
                            with_reducible rfl
                          rotate_left
                          · simp only [Act.put, List.setIfInBounds_toArray, List.set_cons_zero, List.set_cons_succ, i64_w, i32_w]
                            rfl
                          refine pure_ (i := 8) (N := some 74) (v := ?_) (a' := ?_) #[true, true, true, true, true, true, true, true, true, false, false, false, false, false, false, false, false, false, false, false, false, false, false] rfl rfl (any_of HT_.out (by kernel_rfl)) (fun _ _ _ h => h) (Or.inl ⟨by rfl, ?_⟩) ?_ ?_
                          rotate_left
                          · intro w'
                            go_simp
                            with_reducible rfl
                          rotate_left
                          · simp only [Act.put, List.setIfInBounds_toArray, List.set_cons_zero, List.set_cons_succ, i64_w, i32_w]
                            rfl
                          refine pure_ (i := 9) (N := some 75) (v := ?_) (a' := ?_) #[true, true, true, true, true, true, true, true, true, true, false, false, false, false, false, false, false, false, false, false, false, false, false] rfl rfl (any_of HT_.out (by kernel_rfl)) (fun _ _ _ h => h) (Or.inl ⟨by rfl, ?_⟩) ?_ ?_
                          rotate_left
                          · intro w'
                            go_simp
                            with_reducible rfl
                          rotate_left
                          · simp only [Act.put, List.setIfInBounds_toArray, List.set_cons_zero, List.set_cons_succ, i64_w, i32_w]
                            rfl
                          refine pure_ (i := 10) (N := some 76) (v := ?_) (a' := ?_) #[true, true, true, true, true, true, true, true, true, true, true, false, false, false, false, false, false, false, false, false, false, false, false] rfl rfl (any_of HT_.out (by kernel_rfl)) (fun _ _ _ h => h) (Or.inl ⟨by rfl, ?_⟩) ?_ ?_
                          rotate_left
                          · intro w'
                            go_simp
                            with_reducible rfl
                          rotate_left
                          · simp only [Act.put, List.setIfInBounds_toArray, List.set_cons_zero, List.set_cons_succ, i64_w, i32_w]
                            rfl
                          refine pure_ (i := 11) (N := some 77) (v := ?_) (a' := ?_) #[true, true, true, true, true, true, true, true, true, true, true, true, false, false, false, false, false, false, false, false, false, false, false] rfl rfl (any_of HT_.out (by kernel_rfl)) (fun _ _ _ h => h) (Or.inl ⟨by rfl, ?_⟩) ?_ ?_
                          rotate_left
                          · intro w'
                            go_simp
                            with_reducible rfl
                          rotate_left
                          · simp only [Act.put, List.setIfInBounds_toArray, List.set_cons_zero, List.set_cons_succ, i64_w, i32_w]
                            rfl
                          refine pure_ (i := 13) (N := some 79) (v := ?_) (a' := ?_) #[true, true, true, true, true, true, true, true, true, true, true, true, false, true, false, false, false, false, false, false, false, false, false] rfl rfl (any_of HT_.out (by kernel_rfl)) (fun _ _ _ h => h) (Or.inl ⟨by rfl, ?_⟩) ?_ ?_
                          rotate_left
                          · intro w'
                            go_simp
                            with_reducible rfl
                          rotate_left
                          · simp only [Act.put, List.setIfInBounds_toArray, List.set_cons_zero, List.set_cons_succ, i64_w, i32_w]
                            rfl
                          refine pure_ (i := 14) (N := some 80) (v := ?_) (a' := ?_) #[true, true, true, true, true, true, true, true, true, true, true, true, false, true, true, false, false, false, false, false, false, false, false] rfl rfl (any_of HT_.out (by kernel_rfl)) (fun _ _ _ h => h) (Or.inl ⟨by rfl, ?_⟩) ?_ ?_
                          rotate_left
                          · intro w'
                            go_simp
                            with_reducible rfl
                          rotate_left
                          · simp only [Act.put, List.setIfInBounds_toArray, List.set_cons_zero, List.set_cons_succ, i64_w, i32_w]
                            rfl
                          refine pure_ (i := 15) (N := some 81) (v := ?_) (a' := ?_) #[true, true, true, true, true, true, true, true, true, true, true, true, false, true, true, true, false, false, false, false, false, false, false] rfl rfl (any_of HT_.out (by kernel_rfl)) (fun _ _ _ h => h) (Or.inl ⟨by rfl, ?_⟩) ?_ ?_
                          rotate_left
                          · intro w'
                            go_simp
                            with_reducible rfl
                          rotate_left
                          · simp only [Act.put, List.setIfInBounds_toArray, List.set_cons_zero, List.set_cons_succ, i64_w, i32_w]
                            rfl
                          refine one_ (i := 12) (N := some 78) #[true, true, true, true, true, true, true, true, true, true, true, true, true, true, true, true, false, false, false, false, false, false, false] rfl rfl (one_of HT_.out (by kernel_rfl)) (by decide) (fun K hK => ?_)
                          refine goes_ Tryz.func25 (by kernel_rfl) rfl #[.slice Ao51 t263.length co51] (by rfl) rfl rfl (by (try simp only [List.map_toArray, List.map_cons, List.map_nil]); first | done | rfl | (simp only [List.length_drop, List.length_take]; rfl)) ?_
                          with_reducible refine (laws_drawEvents.calls k1 (fun k_ => some k_ ≠ (.slice Ao52 t255.length co52 : Value).ownBlock) _ _ t263 t269 _ ?side1 A43.out).mono ?_
                          (case side1 => exact Kd.N_V (HO_8.out))
                          rintro e w54 ⟨v270, rfl, ho0, hb⟩
                          refine ⟨_, rfl, ?_⟩
                          have n0_ := Aside0.mk (Kd.N_elder' (by (with_reducible repeat (first | apply Kd.N_alloc | apply Kd.N_drewN | apply Kd.N_drew)); exact HO_7.out) (by first | exact Kd.N_base ho0 | exact Kd.S_base ho0) hb)
                          have n1_ := Aside0.mk (Kd.N_elder' (by (with_reducible repeat (first | apply Kd.N_alloc | apply Kd.N_drewN | apply Kd.N_drew)); exact HO_8.out) (by first | exact Kd.N_base ho0 | exact Kd.S_base ho0) hb)
                          have n2_ := Aside0.mk (Kd.V_elder' (by (with_reducible repeat (first | apply Kd.V_alloc | apply Kd.V_drewN | apply Kd.V_drew)); exact HO276.out) (by first | exact Kd.N_base ho0 | exact Kd.S_base ho0) hb)
                          have n3_ := Aside0.mk (Kd.N_lower (Kd.N_mono (ok' := fun k_ => some k_ ≠ (.slice Ao52 t255.length co52 : Value).ownBlock) ho0 (fun k_ hk_ => Or.elim hk_ (fun hs_ => hs_) (fun hn_ => (Kd.fresh' (Kd.N_lt (by (with_reducible repeat (first | apply Kd.N_alloc | apply Kd.N_drewN | apply Kd.N_drew)); exact HO_7.out)) k_ hn_)))) (below_size (by repeat (first | (with_reducible first | exact HB.out | apply below_alloc | apply pw_below_drewN | apply below_drew1) | exact HB.out))))
                          have n4_ := Aside0.mk (below_step (by repeat (first | (with_reducible first | exact HB.out | apply below_alloc | apply pw_below_drewN | apply below_drew1) | exact HB.out)) hb)
                          clear HO_7
                          clear HO_8
                          clear HO276
                          clear HB
                          have HO_7 := n0_
                          have HO_8 := n1_
                          have HO276 := n2_
                          have HO271 := n3_
                          have HB := n4_
                          clear n0_ n1_ n2_ n3_ n4_
                          (try clear hb)
                          (try clear hb2)
                          (try clear hk)
                          (try clear hi)
                          (try clear ho0)
                          refine hK.out _ _ trivial (fun hHeld => ?_)
                          clear hK K
                          refine norm_ (a' := ?_) ?_ ?_
                          rotate_left
                          · show Act.put _ (some 78) _ = _
                            simp only [Act.put, List.setIfInBounds_toArray, List.set_cons_zero, List.set_cons_succ, i64_w, i32_w]
                            rfl
                          refine one_ (i := 16) (N := some 82) #[true, true, true, true, true, true, true, true, true, true, true, true, true, true, true, true, true, false, false, false, false, false, false] rfl rfl (one_of HT_.out (by kernel_rfl)) (by decide) (fun K hK => ?_)
                          refine goes_ Tryz.func25 (by kernel_rfl) rfl #[.slice Ao52 y272.length co52] (by rfl) rfl rfl (by (try simp only [List.map_toArray, List.map_cons, List.map_nil]); first | done | rfl | (simp only [List.length_drop, List.length_take]; rfl)) ?_
                          with_reducible refine (laws_drawEvents.calls k1 (fun k_ => (some k_ ≠ (.slice Ao51 t263.length co51 : Value).ownBlock ∧ some k_ ≠ (v270 : Value).ownBlock)) _ _ y272 t277 _ ?side1 A46.out).mono ?_
                          (case side1 => exact HO276.out)
                          rintro e w55 ⟨v278, rfl, ho0, hb⟩
                          refine ⟨_, rfl, ?_⟩
                          have n0_ := Aside0.mk (Kd.N_elder' (by (with_reducible repeat (first | apply Kd.N_alloc | apply Kd.N_drewN | apply Kd.N_drew)); exact HO_7.out) (by first | exact Kd.N_base ho0 | exact Kd.S_base ho0) hb)
                          have n1_ := Aside0.mk (Kd.N_elder' (by (with_reducible repeat (first | apply Kd.N_alloc | apply Kd.N_drewN | apply Kd.N_drew)); exact HO_8.out) (by first | exact Kd.N_base ho0 | exact Kd.S_base ho0) hb)
                          have n2_ := Aside0.mk (Kd.V_elder' (by (with_reducible repeat (first | apply Kd.V_alloc | apply Kd.V_drewN | apply Kd.V_drew)); exact HO276.out) (by first | exact Kd.N_base ho0 | exact Kd.S_base ho0) hb)
                          have n3_ := Aside0.mk (Kd.N_elder' (by (with_reducible repeat (first | apply Kd.N_alloc | apply Kd.N_drewN | apply Kd.N_drew)); exact HO271.out) (by first | exact Kd.N_base ho0 | exact Kd.S_base ho0) hb)
                          have n4_ := Aside0.mk (Kd.N_lower (Kd.N_mono (ok' := fun k_ => some k_ ≠ (.slice Ao51 t263.length co51 : Value).ownBlock ∧ some k_ ≠ (v270 : Value).ownBlock) ho0 (fun k_ hk_ => ⟨Or.elim hk_ (fun hs_ => hs_.1) (fun hn_ => (Kd.fresh' (Kd.N_lt (by (with_reducible repeat (first | apply Kd.N_alloc | apply Kd.N_drewN | apply Kd.N_drew)); exact HO_8.out)) k_ hn_)), Or.elim hk_ (fun hs_ => hs_.2) (fun hn_ => (Kd.fresh' (Kd.N_lt (by (with_reducible repeat (first | apply Kd.N_alloc | apply Kd.N_drewN | apply Kd.N_drew)); exact HO271.out)) k_ hn_))⟩)) (below_size (by repeat (first | (with_reducible first | exact HB.out | apply below_alloc | apply pw_below_drewN | apply below_drew1) | exact HB.out))))
                          have n5_ := Aside0.mk (below_step (by repeat (first | (with_reducible first | exact HB.out | apply below_alloc | apply pw_below_drewN | apply below_drew1) | exact HB.out)) hb)
                          clear HO_7
                          clear HO_8
                          clear HO276
                          clear HO271
                          clear HB
                          have HO_7 := n0_
                          have HO_8 := n1_
                          have HO276 := n2_
                          have HO271 := n3_
                          have HO279 := n4_
                          have HB := n5_
                          clear n0_ n1_ n2_ n3_ n4_ n5_
                          (try clear hb)
                          (try clear hb2)
                          (try clear hk)
                          (try clear hi)
                          (try clear ho0)
                          obtain ⟨Ao56, co56, eo56⟩ := Kd.N_slice HO271.out
                          (first | subst eo56 | (injection eo56 with f1_ f2_ f3_; have f4_ := f1_.symm; have f5_ := f3_.symm; clear f1_ f2_ f3_; subst f4_; subst f5_))
                          obtain ⟨Ao57, co57, eo57⟩ := Kd.N_slice HO279.out
                          (first | subst eo57 | (injection eo57 with f1_ f2_ f3_; have f4_ := f1_.symm; have f5_ := f3_.symm; clear f1_ f2_ f3_; subst f4_; subst f5_))
                          refine hK.out _ _ trivial (fun hHeld => ?_)
                          clear hK K
                          refine norm_ (a' := ?_) ?_ ?_
                          rotate_left
                          · show Act.put _ (some 82) _ = _
                            simp only [Act.put, List.setIfInBounds_toArray, List.set_cons_zero, List.set_cons_succ, i64_w, i32_w]
                            rfl
                          refine one_ (i := 17) (N := some 83) #[true, true, true, true, true, true, true, true, true, true, true, true, true, true, true, true, true, true, false, false, false, false, false] rfl rfl (one_of HT_.out (by kernel_rfl)) (by decide) (fun K hK => ?_)
                          refine goes_ Tryz.func24 (by kernel_rfl) rfl #[.slice Ao56 t269.length co56, .slice Ao57 t277.length co57] (by rfl) rfl rfl (by (try simp only [List.map_toArray, List.map_cons, List.map_nil]); first | done | rfl | (simp only [List.length_drop, List.length_take]; rfl)) ?_
                          with_reducible refine (spec_SameEvents.calls _ _ t269 _ _ t277 true _ ?side1 ?side2 ?side3 ?side4 A47.out).mono ?_
                          (case side1 => repeat (first | exact (Kd.N_reads' HO271.out).2.2 | (with_reducible refine Kd.C_alloc ?_ _) | (with_reducible refine Kd.C_drewN ?_ _) | (with_reducible refine Kd.C_drew ?_)))
                          (case side2 => exact (Kd.N_reads' HO271.out).2.1)
                          (case side3 => repeat (first | exact (Kd.N_reads' HO279.out).2.2 | (with_reducible refine Kd.C_alloc ?_ _) | (with_reducible refine Kd.C_drewN ?_ _) | (with_reducible refine Kd.C_drew ?_)))
                          (case side4 => exact (Kd.N_reads' HO279.out).2.1)
                          rintro e w58 ⟨rfl, hb⟩
                          refine ⟨_, rfl, ?_⟩
                          have n0_ := Aside0.mk (Kd.N_below (by (with_reducible repeat (first | apply Kd.N_alloc | apply Kd.N_drewN | apply Kd.N_drew)); exact HO_7.out) hb)
                          have n1_ := Aside0.mk (Kd.N_below (by (with_reducible repeat (first | apply Kd.N_alloc | apply Kd.N_drewN | apply Kd.N_drew)); exact HO_8.out) hb)
                          have n2_ := Aside0.mk (Kd.V_below (by (with_reducible repeat (first | apply Kd.V_alloc | apply Kd.V_drewN | apply Kd.V_drew)); exact HO276.out) hb)
                          have n3_ := Aside0.mk (Kd.N_below (by (with_reducible repeat (first | apply Kd.N_alloc | apply Kd.N_drewN | apply Kd.N_drew)); exact HO271.out) hb)
                          have n4_ := Aside0.mk (Kd.N_below (by (with_reducible repeat (first | apply Kd.N_alloc | apply Kd.N_drewN | apply Kd.N_drew)); exact HO279.out) hb)
                          have n5_ := Aside0.mk (below_step (by repeat (first | (with_reducible first | exact HB.out | apply below_alloc | apply pw_below_drewN | apply below_drew1) | exact HB.out)) hb)
                          clear HO_7
                          clear HO_8
                          clear HO276
                          clear HO271
                          clear HO279
                          clear HB
                          have HO_7 := n0_
                          have HO_8 := n1_
                          have HO276 := n2_
                          have HO271 := n3_
                          have HO279 := n4_
                          have HB := n5_
                          clear n0_ n1_ n2_ n3_ n4_ n5_
                          (try clear hb)
                          (try clear hb2)
                          (try clear hk)
                          (try clear hi)
                          refine hK.out _ _ trivial (fun hHeld => ?_)
                          clear hK K
                          refine norm_ (a' := ?_) ?_ ?_
                          rotate_left
                          · show Act.put _ (some 83) _ = _
                            simp only [Act.put, List.setIfInBounds_toArray, List.set_cons_zero, List.set_cons_succ, i64_w, i32_w]
                            rfl
                          refine pure_ (i := 18) (N := some 84) (v := ?_) (a' := ?_) #[true, true, true, true, true, true, true, true, true, true, true, true, true, true, true, true, true, true, true, false, false, false, false] rfl rfl (any_of HT_.out (by kernel_rfl)) (fun _ _ _ h => h) (Or.inl ⟨by rfl, ?_⟩) ?_ ?_
                          rotate_left
                          · intro w'
                            go_simp
                            with_reducible rfl
                          rotate_left
                          · simp only [Act.put, List.setIfInBounds_toArray, List.set_cons_zero, List.set_cons_succ, i64_w, i32_w]
                            rfl
                          refine pure_ (i := 19) (N := some 85) (v := ?_) (a' := ?_) #[true, true, true, true, true, true, true, true, true, true, true, true, true, true, true, true, true, true, true, true, false, false, false] rfl rfl (any_of HT_.out (by kernel_rfl)) (fun _ _ _ h => h) (Or.inl ⟨by rfl, ?_⟩) ?_ ?_
                          rotate_left
                          · intro w'
                            go_simp
                            with_reducible rfl
                          rotate_left
                          · simp only [Act.put, List.setIfInBounds_toArray, List.set_cons_zero, List.set_cons_succ, i64_w, i32_w]
                            rfl
                          refine one_ (i := 20) (N := some 86) #[true, true, true, true, true, true, true, true, true, true, true, true, true, true, true, true, true, true, true, true, true, false, false] rfl rfl (one_of HT_.out (by kernel_rfl)) (by decide) (fun K hK => ?_)
                          refine goes_ Tryz.func18 (by kernel_rfl) rfl #[] (by rfl) rfl rfl (by (try simp only [List.map_toArray, List.map_cons, List.map_nil]); first | done | rfl | (simp only [List.length_drop, List.length_take]; rfl)) ?_
                          with_reducible refine (laws_drawAwake.calls  t281 _ ?side1 A49.out).mono ?_
                          (case side1 => exact XTab.below HT.out (by repeat (first | (with_reducible first | exact HB.out | apply below_alloc | apply pw_below_drewN | apply below_drew1) | exact HB.out)))
                          rintro e w59 ⟨rfl, hb⟩
                          refine ⟨_, rfl, ?_⟩
                          have n0_ := Aside0.mk (Kd.N_below (by (with_reducible repeat (first | apply Kd.N_alloc | apply Kd.N_drewN | apply Kd.N_drew)); exact HO_7.out) hb)
                          have n1_ := Aside0.mk (Kd.N_below (by (with_reducible repeat (first | apply Kd.N_alloc | apply Kd.N_drewN | apply Kd.N_drew)); exact HO_8.out) hb)
                          have n2_ := Aside0.mk (Kd.V_below (by (with_reducible repeat (first | apply Kd.V_alloc | apply Kd.V_drewN | apply Kd.V_drew)); exact HO276.out) hb)
                          have n3_ := Aside0.mk (Kd.N_below (by (with_reducible repeat (first | apply Kd.N_alloc | apply Kd.N_drewN | apply Kd.N_drew)); exact HO271.out) hb)
                          have n4_ := Aside0.mk (Kd.N_below (by (with_reducible repeat (first | apply Kd.N_alloc | apply Kd.N_drewN | apply Kd.N_drew)); exact HO279.out) hb)
                          have n5_ := Aside0.mk (below_step (by repeat (first | (with_reducible first | exact HB.out | apply below_alloc | apply pw_below_drewN | apply below_drew1) | exact HB.out)) hb)
                          clear HO_7
                          clear HO_8
                          clear HO276
                          clear HO271
                          clear HO279
                          clear HB
                          have HO_7 := n0_
                          have HO_8 := n1_
                          have HO276 := n2_
                          have HO271 := n3_
                          have HO279 := n4_
                          have HB := n5_
                          clear n0_ n1_ n2_ n3_ n4_ n5_
                          (try clear hb)
                          (try clear hb2)
                          (try clear hk)
                          (try clear hi)
                          refine hK.out _ _ trivial (fun hHeld => ?_)
                          clear hK K
                          refine norm_ (a' := ?_) ?_ ?_
                          rotate_left
                          · show Act.put _ (some 86) _ = _
                            simp only [Act.put, List.setIfInBounds_toArray, List.set_cons_zero, List.set_cons_succ, i64_w, i32_w]
                            rfl
                          refine pure_ (i := 21) (N := some 87) (v := ?_) (a' := ?_) #[true, true, true, true, true, true, true, true, true, true, true, true, true, true, true, true, true, true, true, true, true, true, false] rfl rfl (any_of HT_.out (by kernel_rfl)) (fun _ _ _ h => h) (Or.inl ⟨by rfl, ?_⟩) ?_ ?_
                          rotate_left
                          · intro w'
                            go_simp
                            with_reducible rfl
                          rotate_left
                          · simp only [Act.put, List.setIfInBounds_toArray, List.set_cons_zero, List.set_cons_succ, i64_w, i32_w]
                            rfl
                          refine pure_ (i := 22) (N := some 4) (v := ?_) (a' := ?_) #[true, true, true, true, true, true, true, true, true, true, true, true, true, true, true, true, true, true, true, true, true, true, true] rfl rfl (any_of HT_.out (by kernel_rfl)) (fun _ _ _ h => h) (Or.inl ⟨by rfl, ?_⟩) ?_ ?_
                          rotate_left
                          · intro w'
                            go_simp
                            with_reducible rfl
                          rotate_left
                          · simp only [Act.put, List.setIfInBounds_toArray, List.set_cons_zero, List.set_cons_succ, i64_w, i32_w]
                            rfl
                          refine done_ (done_of HT_.out (by kernel_rfl)) ?_
                          try go_wp2
                          go_ret
                          exact ⟨by first | rfl | (simp [errW_none, errW_some] <;> rfl) | (simp only [← hji10]; first | rfl | (simp [errW_none, errW_some] <;> rfl)) | (simp [*, errW_none, errW_some] <;> rfl), by repeat (first | (with_reducible first | exact HB.out | apply below_alloc | apply pw_below_drewN | apply below_drew1) | exact HB.out)⟩
                        · replace c48 := Bool.eq_false_iff.mpr c48
                          subst c48
                          have H1 : (some false) = some r := by rw [if_neg (show ¬ (false = true) by decide)] at H; exact H
                          clear H
                          have H := H1
                          clear H1
                          obtain rfl := Option.some.inj H
                          try go_wp2
                          have n0_ := Aside0.mk (Kd.N_drew HO_7.out)
                          have n1_ := Aside0.mk (Kd.N_drew HO_8.out)
                          have n2_ := Aside0.mk (below_drew1 HB.out)
                          clear HO_7
                          clear HO_8
                          clear HB
                          have HO_7 := n0_
                          have HO_8 := n1_
                          have HB := n2_
                          clear n0_ n1_ n2_
                          obtain ⟨Ao61, co61, eo61⟩ := Kd.N_slice HO_8.out
                          (first | subst eo61 | (injection eo61 with f1_ f2_ f3_; have f4_ := f1_.symm; have f5_ := f3_.symm; clear f1_ f2_ f3_; subst f4_; subst f5_))
                          obtain ⟨Ao62, co62, eo62⟩ := Kd.N_slice HO_7.out
                          (first | subst eo62 | (injection eo62 with f1_ f2_ f3_; have f4_ := f1_.symm; have f5_ := f3_.symm; clear f1_ f2_ f3_; subst f4_; subst f5_))
                          have q63 : (x10_1 : Int) ≤ ((t255.length : Int) : Int) := of_decide_eq_true (by first | (with_reducible assumption) | assumption)
                          obtain ⟨i063, hi063, _, hsz63, _⟩ := info_parts info83
                          have hroom63 : t255.length ≤ co62 := (Kd.N_reads' HO_7.out).2.1
                          have hC63 : Kd.F k83 _ _ Ao62 t255.length t255 := (Kd.V_at (base := w.heap.size) (Kd.N_V HO_7.out)).2.2
                          have hcut63 := cut_to (P := Tryz.prog) 28 83 .i64 Tryz.underlying28 hi063 Ao62 t255.length co62 x10_1 (of_decide_eq_true (by first | (with_reducible assumption) | assumption)) q63 hroom63
                          have hr63 := Kd.F_take (m := (x10_1 : Int).toNat) hC63 (by omega)
                          have hy63 : y272.length = (x10_1 : Int).toNat := (by rw [Ny272.out, List.length_take]; omega)
                          rw [← Ny272.out] at hr63
                          rw [← hy63] at hcut63
                          have HO276 := Aside0.mk (show Kd.V k83 83 _ w.heap.size _ (.slice Ao62 y272.length co62) y272 from Kd.V_mk (by omega) hr63)
                          have HC276 := Aside0.mk (show y272.length ≤ co62 from by omega)
                          clear hr63 hC63 hroom63 hi063 hsz63
                          have KY63 := Aside0.mk hy63
                          clear hy63
                          replace q63 := eq_true q63
                          refine start_ (n := 23) (S := fun w' => True) (ds := []) #[false, false, false, false, false, false, false, false, false, false, false, false, false, false, false, false, false, false, false, false, false, false, false] (by kernel_rfl) rfl rfl trivial (fun hHeld => ?_); refine with_tabW laws_FnDrawPrefix.tab20 laws_FnDrawPrefix.bits20 (fun HT_ HW_ => ?_)
                          generalize wr.drew = w60 at HO_7 HO_8 HB HO276 hHeld ⊢
                          refine pure_ (i := 0) (N := some 66) (v := ?_) (a' := ?_) #[true, false, false, false, false, false, false, false, false, false, false, false, false, false, false, false, false, false, false, false, false, false, false] rfl rfl (any_of HT_.out (by kernel_rfl)) (fun _ _ _ h => h) (Or.inl ⟨by rfl, ?_⟩) ?_ ?_
                          rotate_left
                          · intro w'
                            go_simp
                            with_reducible rfl
                          rotate_left
                          · simp only [Act.put, List.setIfInBounds_toArray, List.set_cons_zero, List.set_cons_succ, i64_w, i32_w]
                            rfl
                          refine pure_ (i := 1) (N := some 67) (v := ?_) (a' := ?_) #[true, true, false, false, false, false, false, false, false, false, false, false, false, false, false, false, false, false, false, false, false, false, false] rfl rfl (any_of HT_.out (by kernel_rfl)) (fun _ _ _ h => h) (Or.inl ⟨by rfl, ?_⟩) ?_ ?_
                          rotate_left
                          · intro w'
                            go_simp
                            with_reducible rfl
                          rotate_left
                          · simp only [Act.put, List.setIfInBounds_toArray, List.set_cons_zero, List.set_cons_succ, i64_w, i32_w]
                            rfl
                          refine pure_ (i := 2) (N := some 68) (v := ?_) (a' := ?_) #[true, true, true, false, false, false, false, false, false, false, false, false, false, false, false, false, false, false, false, false, false, false, false] rfl rfl (any_of HT_.out (by kernel_rfl)) (fun _ _ _ h => h) (Or.inl ⟨by rfl, ?_⟩) ?_ ?_
                          rotate_left
                          · intro w'
                            go_simp
                            with_reducible rfl
                          rotate_left
                          · simp only [Act.put, List.setIfInBounds_toArray, List.set_cons_zero, List.set_cons_succ, i64_w, i32_w]
                            rfl
                          refine pure_ (i := 3) (N := some 69) (v := ?_) (a' := ?_) #[true, true, true, true, false, false, false, false, false, false, false, false, false, false, false, false, false, false, false, false, false, false, false] rfl rfl (any_of HT_.out (by kernel_rfl)) (fun _ _ _ h => h) (Or.inl ⟨by rfl, ?_⟩) ?_ ?_
                          rotate_left
                          · intro w'
                            go_simp
                            with_reducible rfl
                          rotate_left
                          · simp only [Act.put, List.setIfInBounds_toArray, List.set_cons_zero, List.set_cons_succ, i64_w, i32_w]
                            rfl
                          refine pure_ (i := 4) (N := some 70) (v := ?_) (a' := ?_) #[true, true, true, true, true, false, false, false, false, false, false, false, false, false, false, false, false, false, false, false, false, false, false] rfl rfl (any_of HT_.out (by kernel_rfl)) (fun _ _ _ h => h) (Or.inl ⟨by rfl, ?_⟩) ?_ ?_
                          rotate_left
                          · intro w'
                            go_simp
                            with_reducible rfl
                          rotate_left
                          · simp only [Act.put, List.setIfInBounds_toArray, List.set_cons_zero, List.set_cons_succ, i64_w, i32_w]
                            rfl
                          refine pure_ (i := 5) (N := some 71) (v := ?_) (a' := ?_) #[true, true, true, true, true, true, false, false, false, false, false, false, false, false, false, false, false, false, false, false, false, false, false] rfl rfl (any_of HT_.out (by kernel_rfl)) (fun _ _ _ h => h) (Or.inl ⟨by rfl, ?_⟩) ?_ ?_
                          rotate_left
                          · intro w'
                            go_simp
                            with_reducible rfl
                          rotate_left
                          · simp only [Act.put, List.setIfInBounds_toArray, List.set_cons_zero, List.set_cons_succ, i64_w, i32_w]
                            rfl
                          refine pure_ (i := 6) (N := some 72) (v := ?_) (a' := ?_) #[true, true, true, true, true, true, true, false, false, false, false, false, false, false, false, false, false, false, false, false, false, false, false] rfl rfl (any_of HT_.out (by kernel_rfl)) (fun _ _ _ h => h) (Or.inl ⟨by rfl, ?_⟩) ?_ ?_
                          rotate_left
                          · intro w'
                            go_simp
                            with_reducible rfl
                          rotate_left
                          · simp only [Act.put, List.setIfInBounds_toArray, List.set_cons_zero, List.set_cons_succ, i64_w, i32_w]
                            rfl
                          refine pure_ (i := 7) (N := some 73) (v := ?_) (a' := ?_) #[true, true, true, true, true, true, true, true, false, false, false, false, false, false, false, false, false, false, false, false, false, false, false] rfl rfl (any_of HT_.out (by kernel_rfl)) (fun _ _ _ h => h) (Or.inl ⟨by rfl, ?_⟩) ?_ ?_
                          rotate_left
                          · intro w'
                            go_simp
                            with_reducible rfl
                          rotate_left
                          · simp only [Act.put, List.setIfInBounds_toArray, List.set_cons_zero, List.set_cons_succ, i64_w, i32_w]
                            rfl
                          refine pure_ (i := 8) (N := some 74) (v := ?_) (a' := ?_) #[true, true, true, true, true, true, true, true, true, false, false, false, false, false, false, false, false, false, false, false, false, false, false] rfl rfl (any_of HT_.out (by kernel_rfl)) (fun _ _ _ h => h) (Or.inl ⟨by rfl, ?_⟩) ?_ ?_
                          rotate_left
                          · intro w'
                            go_simp
                            with_reducible rfl
                          rotate_left
                          · simp only [Act.put, List.setIfInBounds_toArray, List.set_cons_zero, List.set_cons_succ, i64_w, i32_w]
                            rfl
                          refine pure_ (i := 9) (N := some 75) (v := ?_) (a' := ?_) #[true, true, true, true, true, true, true, true, true, true, false, false, false, false, false, false, false, false, false, false, false, false, false] rfl rfl (any_of HT_.out (by kernel_rfl)) (fun _ _ _ h => h) (Or.inl ⟨by rfl, ?_⟩) ?_ ?_
                          rotate_left
                          · intro w'
                            go_simp
                            with_reducible rfl
                          rotate_left
                          · simp only [Act.put, List.setIfInBounds_toArray, List.set_cons_zero, List.set_cons_succ, i64_w, i32_w]
                            rfl
                          refine pure_ (i := 10) (N := some 76) (v := ?_) (a' := ?_) #[true, true, true, true, true, true, true, true, true, true, true, false, false, false, false, false, false, false, false, false, false, false, false] rfl rfl (any_of HT_.out (by kernel_rfl)) (fun _ _ _ h => h) (Or.inl ⟨by rfl, ?_⟩) ?_ ?_
                          rotate_left
                          · intro w'
                            go_simp
                            with_reducible rfl
                          rotate_left
                          · simp only [Act.put, List.setIfInBounds_toArray, List.set_cons_zero, List.set_cons_succ, i64_w, i32_w]
                            rfl
                          refine pure_ (i := 11) (N := some 77) (v := ?_) (a' := ?_) #[true, true, true, true, true, true, true, true, true, true, true, true, false, false, false, false, false, false, false, false, false, false, false] rfl rfl (any_of HT_.out (by kernel_rfl)) (fun _ _ _ h => h) (Or.inl ⟨by rfl, ?_⟩) ?_ ?_
                          rotate_left
                          · intro w'
                            go_simp
                            with_reducible rfl
                          rotate_left
                          · simp only [Act.put, List.setIfInBounds_toArray, List.set_cons_zero, List.set_cons_succ, i64_w, i32_w]
                            rfl
                          refine pure_ (i := 13) (N := some 79) (v := ?_) (a' := ?_) #[true, true, true, true, true, true, true, true, true, true, true, true, false, true, false, false, false, false, false, false, false, false, false] rfl rfl (any_of HT_.out (by kernel_rfl)) (fun _ _ _ h => h) (Or.inl ⟨by rfl, ?_⟩) ?_ ?_
                          rotate_left
                          · intro w'
                            go_simp
                            with_reducible rfl
                          rotate_left
                          · simp only [Act.put, List.setIfInBounds_toArray, List.set_cons_zero, List.set_cons_succ, i64_w, i32_w]
                            rfl
                          refine pure_ (i := 14) (N := some 80) (v := ?_) (a' := ?_) #[true, true, true, true, true, true, true, true, true, true, true, true, false, true, true, false, false, false, false, false, false, false, false] rfl rfl (any_of HT_.out (by kernel_rfl)) (fun _ _ _ h => h) (Or.inl ⟨by rfl, ?_⟩) ?_ ?_
                          rotate_left
                          · intro w'
                            go_simp
                            with_reducible rfl
                          rotate_left
                          · simp only [Act.put, List.setIfInBounds_toArray, List.set_cons_zero, List.set_cons_succ, i64_w, i32_w]
                            rfl
                          refine pure_ (i := 15) (N := some 81) (v := ?_) (a' := ?_) #[true, true, true, true, true, true, true, true, true, true, true, true, false, true, true, true, false, false, false, false, false, false, false] rfl rfl (any_of HT_.out (by kernel_rfl)) (fun _ _ _ h => h) (Or.inl ⟨by rfl, ?_⟩) ?_ ?_
                          rotate_left
                          · intro w'
                            go_simp
                            with_reducible rfl
                          rotate_left
                          · simp only [Act.put, List.setIfInBounds_toArray, List.set_cons_zero, List.set_cons_succ, i64_w, i32_w]
                            rfl
                          refine one_ (i := 12) (N := some 78) #[true, true, true, true, true, true, true, true, true, true, true, true, true, true, true, true, false, false, false, false, false, false, false] rfl rfl (one_of HT_.out (by kernel_rfl)) (by decide) (fun K hK => ?_)
                          refine goes_ Tryz.func25 (by kernel_rfl) rfl #[.slice Ao61 t263.length co61] (by rfl) rfl rfl (by (try simp only [List.map_toArray, List.map_cons, List.map_nil]); first | done | rfl | (simp only [List.length_drop, List.length_take]; rfl)) ?_
                          with_reducible refine (laws_drawEvents.calls k1 (fun k_ => some k_ ≠ (.slice Ao62 t255.length co62 : Value).ownBlock) _ _ t263 t269 _ ?side1 A43.out).mono ?_
                          (case side1 => exact Kd.N_V (HO_8.out))
                          rintro e w64 ⟨v270, rfl, ho0, hb⟩
                          refine ⟨_, rfl, ?_⟩
                          have n0_ := Aside0.mk (Kd.N_elder' (by (with_reducible repeat (first | apply Kd.N_alloc | apply Kd.N_drewN | apply Kd.N_drew)); exact HO_7.out) (by first | exact Kd.N_base ho0 | exact Kd.S_base ho0) hb)
                          have n1_ := Aside0.mk (Kd.N_elder' (by (with_reducible repeat (first | apply Kd.N_alloc | apply Kd.N_drewN | apply Kd.N_drew)); exact HO_8.out) (by first | exact Kd.N_base ho0 | exact Kd.S_base ho0) hb)
                          have n2_ := Aside0.mk (Kd.V_elder' (by (with_reducible repeat (first | apply Kd.V_alloc | apply Kd.V_drewN | apply Kd.V_drew)); exact HO276.out) (by first | exact Kd.N_base ho0 | exact Kd.S_base ho0) hb)
                          have n3_ := Aside0.mk (Kd.N_lower (Kd.N_mono (ok' := fun k_ => some k_ ≠ (.slice Ao62 t255.length co62 : Value).ownBlock) ho0 (fun k_ hk_ => Or.elim hk_ (fun hs_ => hs_) (fun hn_ => (Kd.fresh' (Kd.N_lt (by (with_reducible repeat (first | apply Kd.N_alloc | apply Kd.N_drewN | apply Kd.N_drew)); exact HO_7.out)) k_ hn_)))) (below_size (by repeat (first | (with_reducible first | exact HB.out | apply below_alloc | apply pw_below_drewN | apply below_drew1) | exact HB.out))))
                          have n4_ := Aside0.mk (below_step (by repeat (first | (with_reducible first | exact HB.out | apply below_alloc | apply pw_below_drewN | apply below_drew1) | exact HB.out)) hb)
                          clear HO_7
                          clear HO_8
                          clear HO276
                          clear HB
                          have HO_7 := n0_
                          have HO_8 := n1_
                          have HO276 := n2_
                          have HO271 := n3_
                          have HB := n4_
                          clear n0_ n1_ n2_ n3_ n4_
                          (try clear hb)
                          (try clear hb2)
                          (try clear hk)
                          (try clear hi)
                          (try clear ho0)
                          refine hK.out _ _ trivial (fun hHeld => ?_)
                          clear hK K
                          refine norm_ (a' := ?_) ?_ ?_
                          rotate_left
                          · show Act.put _ (some 78) _ = _
                            simp only [Act.put, List.setIfInBounds_toArray, List.set_cons_zero, List.set_cons_succ, i64_w, i32_w]
                            rfl
                          refine one_ (i := 16) (N := some 82) #[true, true, true, true, true, true, true, true, true, true, true, true, true, true, true, true, true, false, false, false, false, false, false] rfl rfl (one_of HT_.out (by kernel_rfl)) (by decide) (fun K hK => ?_)
                          refine goes_ Tryz.func25 (by kernel_rfl) rfl #[.slice Ao62 y272.length co62] (by rfl) rfl rfl (by (try simp only [List.map_toArray, List.map_cons, List.map_nil]); first | done | rfl | (simp only [List.length_drop, List.length_take]; rfl)) ?_
                          with_reducible refine (laws_drawEvents.calls k1 (fun k_ => (some k_ ≠ (.slice Ao61 t263.length co61 : Value).ownBlock ∧ some k_ ≠ (v270 : Value).ownBlock)) _ _ y272 t277 _ ?side1 A46.out).mono ?_
                          (case side1 => exact HO276.out)
                          rintro e w65 ⟨v278, rfl, ho0, hb⟩
                          refine ⟨_, rfl, ?_⟩
                          have n0_ := Aside0.mk (Kd.N_elder' (by (with_reducible repeat (first | apply Kd.N_alloc | apply Kd.N_drewN | apply Kd.N_drew)); exact HO_7.out) (by first | exact Kd.N_base ho0 | exact Kd.S_base ho0) hb)
                          have n1_ := Aside0.mk (Kd.N_elder' (by (with_reducible repeat (first | apply Kd.N_alloc | apply Kd.N_drewN | apply Kd.N_drew)); exact HO_8.out) (by first | exact Kd.N_base ho0 | exact Kd.S_base ho0) hb)
                          have n2_ := Aside0.mk (Kd.V_elder' (by (with_reducible repeat (first | apply Kd.V_alloc | apply Kd.V_drewN | apply Kd.V_drew)); exact HO276.out) (by first | exact Kd.N_base ho0 | exact Kd.S_base ho0) hb)
                          have n3_ := Aside0.mk (Kd.N_elder' (by (with_reducible repeat (first | apply Kd.N_alloc | apply Kd.N_drewN | apply Kd.N_drew)); exact HO271.out) (by first | exact Kd.N_base ho0 | exact Kd.S_base ho0) hb)
                          have n4_ := Aside0.mk (Kd.N_lower (Kd.N_mono (ok' := fun k_ => some k_ ≠ (.slice Ao61 t263.length co61 : Value).ownBlock ∧ some k_ ≠ (v270 : Value).ownBlock) ho0 (fun k_ hk_ => ⟨Or.elim hk_ (fun hs_ => hs_.1) (fun hn_ => (Kd.fresh' (Kd.N_lt (by (with_reducible repeat (first | apply Kd.N_alloc | apply Kd.N_drewN | apply Kd.N_drew)); exact HO_8.out)) k_ hn_)), Or.elim hk_ (fun hs_ => hs_.2) (fun hn_ => (Kd.fresh' (Kd.N_lt (by (with_reducible repeat (first | apply Kd.N_alloc | apply Kd.N_drewN | apply Kd.N_drew)); exact HO271.out)) k_ hn_))⟩)) (below_size (by repeat (first | (with_reducible first | exact HB.out | apply below_alloc | apply pw_below_drewN | apply below_drew1) | exact HB.out))))
                          have n5_ := Aside0.mk (below_step (by repeat (first | (with_reducible first | exact HB.out | apply below_alloc | apply pw_below_drewN | apply below_drew1) | exact HB.out)) hb)
                          clear HO_7
                          clear HO_8
                          clear HO276
                          clear HO271
                          clear HB
                          have HO_7 := n0_
                          have HO_8 := n1_
                          have HO276 := n2_
                          have HO271 := n3_
                          have HO279 := n4_
                          have HB := n5_
                          clear n0_ n1_ n2_ n3_ n4_ n5_
                          (try clear hb)
                          (try clear hb2)
                          (try clear hk)
                          (try clear hi)
                          (try clear ho0)
                          obtain ⟨Ao66, co66, eo66⟩ := Kd.N_slice HO271.out
                          (first | subst eo66 | (injection eo66 with f1_ f2_ f3_; have f4_ := f1_.symm; have f5_ := f3_.symm; clear f1_ f2_ f3_; subst f4_; subst f5_))
                          obtain ⟨Ao67, co67, eo67⟩ := Kd.N_slice HO279.out
                          (first | subst eo67 | (injection eo67 with f1_ f2_ f3_; have f4_ := f1_.symm; have f5_ := f3_.symm; clear f1_ f2_ f3_; subst f4_; subst f5_))
                          refine hK.out _ _ trivial (fun hHeld => ?_)
                          clear hK K
                          refine norm_ (a' := ?_) ?_ ?_
                          rotate_left
                          · show Act.put _ (some 82) _ = _
                            simp only [Act.put, List.setIfInBounds_toArray, List.set_cons_zero, List.set_cons_succ, i64_w, i32_w]
                            rfl
                          refine one_ (i := 17) (N := some 83) #[true, true, true, true, true, true, true, true, true, true, true, true, true, true, true, true, true, true, false, false, false, false, false] rfl rfl (one_of HT_.out (by kernel_rfl)) (by decide) (fun K hK => ?_)
                          refine goes_ Tryz.func24 (by kernel_rfl) rfl #[.slice Ao66 t269.length co66, .slice Ao67 t277.length co67] (by rfl) rfl rfl (by (try simp only [List.map_toArray, List.map_cons, List.map_nil]); first | done | rfl | (simp only [List.length_drop, List.length_take]; rfl)) ?_
                          with_reducible refine (spec_SameEvents.calls _ _ t269 _ _ t277 false _ ?side1 ?side2 ?side3 ?side4 A47.out).mono ?_
                          (case side1 => repeat (first | exact (Kd.N_reads' HO271.out).2.2 | (with_reducible refine Kd.C_alloc ?_ _) | (with_reducible refine Kd.C_drewN ?_ _) | (with_reducible refine Kd.C_drew ?_)))
                          (case side2 => exact (Kd.N_reads' HO271.out).2.1)
                          (case side3 => repeat (first | exact (Kd.N_reads' HO279.out).2.2 | (with_reducible refine Kd.C_alloc ?_ _) | (with_reducible refine Kd.C_drewN ?_ _) | (with_reducible refine Kd.C_drew ?_)))
                          (case side4 => exact (Kd.N_reads' HO279.out).2.1)
                          rintro e w68 ⟨rfl, hb⟩
                          refine ⟨_, rfl, ?_⟩
                          have n0_ := Aside0.mk (Kd.N_below (by (with_reducible repeat (first | apply Kd.N_alloc | apply Kd.N_drewN | apply Kd.N_drew)); exact HO_7.out) hb)
                          have n1_ := Aside0.mk (Kd.N_below (by (with_reducible repeat (first | apply Kd.N_alloc | apply Kd.N_drewN | apply Kd.N_drew)); exact HO_8.out) hb)
                          have n2_ := Aside0.mk (Kd.V_below (by (with_reducible repeat (first | apply Kd.V_alloc | apply Kd.V_drewN | apply Kd.V_drew)); exact HO276.out) hb)
                          have n3_ := Aside0.mk (Kd.N_below (by (with_reducible repeat (first | apply Kd.N_alloc | apply Kd.N_drewN | apply Kd.N_drew)); exact HO271.out) hb)
                          have n4_ := Aside0.mk (Kd.N_below (by (with_reducible repeat (first | apply Kd.N_alloc | apply Kd.N_drewN | apply Kd.N_drew)); exact HO279.out) hb)
                          have n5_ := Aside0.mk (below_step (by repeat (first | (with_reducible first | exact HB.out | apply below_alloc | apply pw_below_drewN | apply below_drew1) | exact HB.out)) hb)
                          clear HO_7
                          clear HO_8
                          clear HO276
                          clear HO271
                          clear HO279
                          clear HB
                          have HO_7 := n0_
                          have HO_8 := n1_
                          have HO276 := n2_
                          have HO271 := n3_
                          have HO279 := n4_
                          have HB := n5_
                          clear n0_ n1_ n2_ n3_ n4_ n5_
                          (try clear hb)
                          (try clear hb2)
                          (try clear hk)
                          (try clear hi)
                          refine hK.out _ _ trivial (fun hHeld => ?_)
                          clear hK K
                          refine norm_ (a' := ?_) ?_ ?_
                          rotate_left
                          · show Act.put _ (some 83) _ = _
                            simp only [Act.put, List.setIfInBounds_toArray, List.set_cons_zero, List.set_cons_succ, i64_w, i32_w]
                            rfl
                          refine pure_ (i := 18) (N := some 84) (v := ?_) (a' := ?_) #[true, true, true, true, true, true, true, true, true, true, true, true, true, true, true, true, true, true, true, false, false, false, false] rfl rfl (any_of HT_.out (by kernel_rfl)) (fun _ _ _ h => h) (Or.inl ⟨by rfl, ?_⟩) ?_ ?_
                          rotate_left
                          · intro w'
                            go_simp
                            with_reducible rfl
                          rotate_left
                          · simp only [Act.put, List.setIfInBounds_toArray, List.set_cons_zero, List.set_cons_succ, i64_w, i32_w]
                            rfl
                          refine pure_ (i := 19) (N := some 85) (v := ?_) (a' := ?_) #[true, true, true, true, true, true, true, true, true, true, true, true, true, true, true, true, true, true, true, true, false, false, false] rfl rfl (any_of HT_.out (by kernel_rfl)) (fun _ _ _ h => h) (Or.inl ⟨by rfl, ?_⟩) ?_ ?_
                          rotate_left
                          · intro w'
                            go_simp
                            with_reducible rfl
                          rotate_left
                          · simp only [Act.put, List.setIfInBounds_toArray, List.set_cons_zero, List.set_cons_succ, i64_w, i32_w]
                            rfl
                          refine pure_ (i := 20) (N := some 86) (v := undef) (a' := ?_) #[true, true, true, true, true, true, true, true, true, true, true, true, true, true, true, true, true, true, true, true, true, false, false] rfl rfl (any_of HT_.out (by kernel_rfl)) (fun _ _ _ h => h) (Or.inr ⟨by rfl, rfl⟩) ?_ ?_
                          rotate_left
                          · simp only [Act.put, List.setIfInBounds_toArray, List.set_cons_zero, List.set_cons_succ, i64_w, i32_w]
                            rfl
                          refine pure_ (i := 21) (N := some 87) (v := ?_) (a' := ?_) #[true, true, true, true, true, true, true, true, true, true, true, true, true, true, true, true, true, true, true, true, true, true, false] rfl rfl (any_of HT_.out (by kernel_rfl)) (fun _ _ _ h => h) (Or.inl ⟨by rfl, ?_⟩) ?_ ?_
                          rotate_left
                          · intro w'
                            go_simp
                            with_reducible rfl
                          rotate_left
                          · simp only [Act.put, List.setIfInBounds_toArray, List.set_cons_zero, List.set_cons_succ, i64_w, i32_w]
                            rfl
                          refine pure_ (i := 22) (N := some 4) (v := ?_) (a' := ?_) #[true, true, true, true, true, true, true, true, true, true, true, true, true, true, true, true, true, true, true, true, true, true, true] rfl rfl (any_of HT_.out (by kernel_rfl)) (fun _ _ _ h => h) (Or.inl ⟨by rfl, ?_⟩) ?_ ?_
                          rotate_left
                          · intro w'
                            go_simp
                            with_reducible rfl
                          rotate_left
                          · simp only [Act.put, List.setIfInBounds_toArray, List.set_cons_zero, List.set_cons_succ, i64_w, i32_w]
                            rfl
                          refine done_ (done_of HT_.out (by kernel_rfl)) ?_
                          try go_wp2
                          go_ret
                          exact ⟨by first | rfl | (simp [errW_none, errW_some] <;> rfl) | (simp only [← hji10]; first | rfl | (simp [errW_none, errW_some] <;> rfl)) | (simp [*, errW_none, errW_some] <;> rfl), by repeat (first | (with_reducible first | exact HB.out | apply below_alloc | apply pw_below_drewN | apply below_drew1) | exact HB.out)⟩
                      · rw [if_neg c44] at H
                        exact absurd H (by simp)
                    · rw [if_neg c42] at H
                      have c42b0 : decide (x10_1 ≤ (t255.length : Int)) = false := decide_eq_false c42
                      clear c42
                      obtain rfl := Option.some.inj H
                      try go_wp2
                      have n0_ := Aside0.mk (Kd.N_drew HO_7.out)
                      have n1_ := Aside0.mk (Kd.N_drew HO_8.out)
                      have n2_ := Aside0.mk (below_drew1 HB.out)
                      clear HO_7
                      clear HO_8
                      clear HB
                      have HO_7 := n0_
                      have HO_8 := n1_
                      have HB := n2_
                      clear n0_ n1_ n2_
                      obtain ⟨Ao70, co70, eo70⟩ := Kd.N_slice HO_8.out
                      (first | subst eo70 | (injection eo70 with f1_ f2_ f3_; have f4_ := f1_.symm; have f5_ := f3_.symm; clear f1_ f2_ f3_; subst f4_; subst f5_))
                      obtain ⟨Ao71, co71, eo71⟩ := Kd.N_slice HO_7.out
                      (first | subst eo71 | (injection eo71 with f1_ f2_ f3_; have f4_ := f1_.symm; have f5_ := f3_.symm; clear f1_ f2_ f3_; subst f4_; subst f5_))
                      refine start_ (n := 23) (S := fun w' => True) (ds := []) #[false, false, false, false, false, false, false, false, false, false, false, false, false, false, false, false, false, false, false, false, false, false, false] (by kernel_rfl) rfl rfl trivial (fun hHeld => ?_); refine with_tabW laws_FnDrawPrefix.tab20 laws_FnDrawPrefix.bits20 (fun HT_ HW_ => ?_)
                      generalize wr.drew = w69 at HO_7 HO_8 HB hHeld ⊢
                      refine pure_ (i := 0) (N := some 66) (v := ?_) (a' := ?_) #[true, false, false, false, false, false, false, false, false, false, false, false, false, false, false, false, false, false, false, false, false, false, false] rfl rfl (any_of HT_.out (by kernel_rfl)) (fun _ _ _ h => h) (Or.inl ⟨by rfl, ?_⟩) ?_ ?_
                      rotate_left
                      · intro w'
                        go_simp
                        with_reducible rfl
                      rotate_left
                      · simp only [Act.put, List.setIfInBounds_toArray, List.set_cons_zero, List.set_cons_succ, i64_w, i32_w]
                        rfl
                      refine pure_ (i := 1) (N := some 67) (v := ?_) (a' := ?_) #[true, true, false, false, false, false, false, false, false, false, false, false, false, false, false, false, false, false, false, false, false, false, false] rfl rfl (any_of HT_.out (by kernel_rfl)) (fun _ _ _ h => h) (Or.inl ⟨by rfl, ?_⟩) ?_ ?_
                      rotate_left
                      · intro w'
                        go_simp
                        with_reducible rfl
                      rotate_left
                      · simp only [Act.put, List.setIfInBounds_toArray, List.set_cons_zero, List.set_cons_succ, i64_w, i32_w]
                        rfl
                      refine pure_ (i := 2) (N := some 68) (v := ?_) (a' := ?_) #[true, true, true, false, false, false, false, false, false, false, false, false, false, false, false, false, false, false, false, false, false, false, false] rfl rfl (any_of HT_.out (by kernel_rfl)) (fun _ _ _ h => h) (Or.inl ⟨by rfl, ?_⟩) ?_ ?_
                      rotate_left
                      · intro w'
                        go_simp
                        with_reducible rfl
                      rotate_left
                      · simp only [Act.put, List.setIfInBounds_toArray, List.set_cons_zero, List.set_cons_succ, i64_w, i32_w]
                        rfl
                      refine pure_ (i := 3) (N := some 69) (v := ?_) (a' := ?_) #[true, true, true, true, false, false, false, false, false, false, false, false, false, false, false, false, false, false, false, false, false, false, false] rfl rfl (any_of HT_.out (by kernel_rfl)) (fun _ _ _ h => h) (Or.inl ⟨by rfl, ?_⟩) ?_ ?_
                      rotate_left
                      · intro w'
                        go_simp
                        with_reducible rfl
                      rotate_left
                      · simp only [Act.put, List.setIfInBounds_toArray, List.set_cons_zero, List.set_cons_succ, i64_w, i32_w]
                        rfl
                      refine pure_ (i := 4) (N := some 70) (v := ?_) (a' := ?_) #[true, true, true, true, true, false, false, false, false, false, false, false, false, false, false, false, false, false, false, false, false, false, false] rfl rfl (any_of HT_.out (by kernel_rfl)) (fun _ _ _ h => h) (Or.inl ⟨by rfl, ?_⟩) ?_ ?_
                      rotate_left
                      · intro w'
                        go_simp
                        with_reducible rfl
                      rotate_left
                      · simp only [Act.put, List.setIfInBounds_toArray, List.set_cons_zero, List.set_cons_succ, i64_w, i32_w]
                        rfl
                      refine pure_ (i := 5) (N := some 71) (v := ?_) (a' := ?_) #[true, true, true, true, true, true, false, false, false, false, false, false, false, false, false, false, false, false, false, false, false, false, false] rfl rfl (any_of HT_.out (by kernel_rfl)) (fun _ _ _ h => h) (Or.inl ⟨by rfl, ?_⟩) ?_ ?_
                      rotate_left
                      · intro w'
                        go_simp
                        with_reducible rfl
                      rotate_left
                      · simp only [Act.put, List.setIfInBounds_toArray, List.set_cons_zero, List.set_cons_succ, i64_w, i32_w]
                        rfl
                      refine pure_ (i := 6) (N := some 72) (v := ?_) (a' := ?_) #[true, true, true, true, true, true, true, false, false, false, false, false, false, false, false, false, false, false, false, false, false, false, false] rfl rfl (any_of HT_.out (by kernel_rfl)) (fun _ _ _ h => h) (Or.inl ⟨by rfl, ?_⟩) ?_ ?_
                      rotate_left
                      · intro w'
                        go_simp
                        with_reducible rfl
                      rotate_left
                      · simp only [Act.put, List.setIfInBounds_toArray, List.set_cons_zero, List.set_cons_succ, i64_w, i32_w]
                        rfl
                      refine pure_ (i := 7) (N := some 73) (v := ?_) (a' := ?_) #[true, true, true, true, true, true, true, true, false, false, false, false, false, false, false, false, false, false, false, false, false, false, false] rfl rfl (any_of HT_.out (by kernel_rfl)) (fun _ _ _ h => h) (Or.inl ⟨by rfl, ?_⟩) ?_ ?_
                      rotate_left
                      · intro w'
                        go_simp
                        with_reducible rfl
                      rotate_left
                      · simp only [Act.put, List.setIfInBounds_toArray, List.set_cons_zero, List.set_cons_succ, i64_w, i32_w]
                        rfl
                      refine pure_ (i := 8) (N := some 74) (v := ?_) (a' := ?_) #[true, true, true, true, true, true, true, true, true, false, false, false, false, false, false, false, false, false, false, false, false, false, false] rfl rfl (any_of HT_.out (by kernel_rfl)) (fun _ _ _ h => h) (Or.inl ⟨by rfl, ?_⟩) ?_ ?_
                      rotate_left
                      · intro w'
                        go_simp
                        with_reducible rfl
                      rotate_left
                      · simp only [Act.put, List.setIfInBounds_toArray, List.set_cons_zero, List.set_cons_succ, i64_w, i32_w]
                        rfl
                      refine pure_ (i := 9) (N := some 75) (v := ?_) (a' := ?_) #[true, true, true, true, true, true, true, true, true, true, false, false, false, false, false, false, false, false, false, false, false, false, false] rfl rfl (any_of HT_.out (by kernel_rfl)) (fun _ _ _ h => h) (Or.inl ⟨by rfl, ?_⟩) ?_ ?_
                      rotate_left
                      · intro w'
                        go_simp
                        with_reducible rfl
                      rotate_left
                      · simp only [Act.put, List.setIfInBounds_toArray, List.set_cons_zero, List.set_cons_succ, i64_w, i32_w]
                        rfl
                      refine pure_ (i := 10) (N := some 76) (v := ?_) (a' := ?_) #[true, true, true, true, true, true, true, true, true, true, true, false, false, false, false, false, false, false, false, false, false, false, false] rfl rfl (any_of HT_.out (by kernel_rfl)) (fun _ _ _ h => h) (Or.inl ⟨by rfl, ?_⟩) ?_ ?_
                      rotate_left
                      · intro w'
                        go_simp
                        with_reducible rfl
                      rotate_left
                      · simp only [Act.put, List.setIfInBounds_toArray, List.set_cons_zero, List.set_cons_succ, i64_w, i32_w]
                        rfl
                      refine pure_ (i := 11) (N := some 77) (v := undef) (a' := ?_) #[true, true, true, true, true, true, true, true, true, true, true, true, false, false, false, false, false, false, false, false, false, false, false] rfl rfl (any_of HT_.out (by kernel_rfl)) (fun _ _ _ h => h) (Or.inr ⟨by rfl, rfl⟩) ?_ ?_
                      rotate_left
                      · simp only [Act.put, List.setIfInBounds_toArray, List.set_cons_zero, List.set_cons_succ, i64_w, i32_w]
                        rfl
                      refine pure_ (i := 12) (N := some 78) (v := undef) (a' := ?_) #[true, true, true, true, true, true, true, true, true, true, true, true, true, false, false, false, false, false, false, false, false, false, false] rfl rfl (any_of HT_.out (by kernel_rfl)) (fun _ _ _ h => h) (Or.inr ⟨by rfl, rfl⟩) ?_ ?_
                      rotate_left
                      · simp only [Act.put, List.setIfInBounds_toArray, List.set_cons_zero, List.set_cons_succ, i64_w, i32_w]
                        rfl
                      refine pure_ (i := 13) (N := some 79) (v := undef) (a' := ?_) #[true, true, true, true, true, true, true, true, true, true, true, true, true, true, false, false, false, false, false, false, false, false, false] rfl rfl (any_of HT_.out (by kernel_rfl)) (fun _ _ _ h => h) (Or.inr ⟨by rfl, rfl⟩) ?_ ?_
                      rotate_left
                      · simp only [Act.put, List.setIfInBounds_toArray, List.set_cons_zero, List.set_cons_succ, i64_w, i32_w]
                        rfl
                      refine pure_ (i := 14) (N := some 80) (v := undef) (a' := ?_) #[true, true, true, true, true, true, true, true, true, true, true, true, true, true, true, false, false, false, false, false, false, false, false] rfl rfl (any_of HT_.out (by kernel_rfl)) (fun _ _ _ h => h) (Or.inr ⟨by rfl, rfl⟩) ?_ ?_
                      rotate_left
                      · simp only [Act.put, List.setIfInBounds_toArray, List.set_cons_zero, List.set_cons_succ, i64_w, i32_w]
                        rfl
                      refine pure_ (i := 15) (N := some 81) (v := undef) (a' := ?_) #[true, true, true, true, true, true, true, true, true, true, true, true, true, true, true, true, false, false, false, false, false, false, false] rfl rfl (any_of HT_.out (by kernel_rfl)) (fun _ _ _ h => h) (Or.inr ⟨by rfl, rfl⟩) ?_ ?_
                      rotate_left
                      · simp only [Act.put, List.setIfInBounds_toArray, List.set_cons_zero, List.set_cons_succ, i64_w, i32_w]
                        rfl
                      refine pure_ (i := 16) (N := some 82) (v := undef) (a' := ?_) #[true, true, true, true, true, true, true, true, true, true, true, true, true, true, true, true, true, false, false, false, false, false, false] rfl rfl (any_of HT_.out (by kernel_rfl)) (fun _ _ _ h => h) (Or.inr ⟨by rfl, rfl⟩) ?_ ?_
                      rotate_left
                      · simp only [Act.put, List.setIfInBounds_toArray, List.set_cons_zero, List.set_cons_succ, i64_w, i32_w]
                        rfl
                      refine pure_ (i := 17) (N := some 83) (v := undef) (a' := ?_) #[true, true, true, true, true, true, true, true, true, true, true, true, true, true, true, true, true, true, false, false, false, false, false] rfl rfl (any_of HT_.out (by kernel_rfl)) (fun _ _ _ h => h) (Or.inr ⟨by rfl, rfl⟩) ?_ ?_
                      rotate_left
                      · simp only [Act.put, List.setIfInBounds_toArray, List.set_cons_zero, List.set_cons_succ, i64_w, i32_w]
                        rfl
                      refine pure_ (i := 18) (N := some 84) (v := ?_) (a' := ?_) #[true, true, true, true, true, true, true, true, true, true, true, true, true, true, true, true, true, true, true, false, false, false, false] rfl rfl (any_of HT_.out (by kernel_rfl)) (fun _ _ _ h => h) (Or.inl ⟨by rfl, ?_⟩) ?_ ?_
                      rotate_left
                      · intro w'
                        go_simp
                        with_reducible rfl
                      rotate_left
                      · simp only [Act.put, List.setIfInBounds_toArray, List.set_cons_zero, List.set_cons_succ, i64_w, i32_w]
                        rfl
                      refine pure_ (i := 19) (N := some 85) (v := ?_) (a' := ?_) #[true, true, true, true, true, true, true, true, true, true, true, true, true, true, true, true, true, true, true, true, false, false, false] rfl rfl (any_of HT_.out (by kernel_rfl)) (fun _ _ _ h => h) (Or.inl ⟨by rfl, ?_⟩) ?_ ?_
                      rotate_left
                      · intro w'
                        go_simp
                        with_reducible rfl
                      rotate_left
                      · simp only [Act.put, List.setIfInBounds_toArray, List.set_cons_zero, List.set_cons_succ, i64_w, i32_w]
                        rfl
                      refine pure_ (i := 20) (N := some 86) (v := undef) (a' := ?_) #[true, true, true, true, true, true, true, true, true, true, true, true, true, true, true, true, true, true, true, true, true, false, false] rfl rfl (any_of HT_.out (by kernel_rfl)) (fun _ _ _ h => h) (Or.inr ⟨by rfl, rfl⟩) ?_ ?_
                      rotate_left
                      · simp only [Act.put, List.setIfInBounds_toArray, List.set_cons_zero, List.set_cons_succ, i64_w, i32_w]
                        rfl
                      refine pure_ (i := 21) (N := some 87) (v := ?_) (a' := ?_) #[true, true, true, true, true, true, true, true, true, true, true, true, true, true, true, true, true, true, true, true, true, true, false] rfl rfl (any_of HT_.out (by kernel_rfl)) (fun _ _ _ h => h) (Or.inl ⟨by rfl, ?_⟩) ?_ ?_
                      rotate_left
                      · intro w'
                        go_simp
                        with_reducible rfl
                      rotate_left
                      · simp only [Act.put, List.setIfInBounds_toArray, List.set_cons_zero, List.set_cons_succ, i64_w, i32_w]
                        rfl
                      refine pure_ (i := 22) (N := some 4) (v := ?_) (a' := ?_) #[true, true, true, true, true, true, true, true, true, true, true, true, true, true, true, true, true, true, true, true, true, true, true] rfl rfl (any_of HT_.out (by kernel_rfl)) (fun _ _ _ h => h) (Or.inl ⟨by rfl, ?_⟩) ?_ ?_
                      rotate_left
                      · intro w'
                        go_simp
                        with_reducible rfl
                      rotate_left
                      · simp only [Act.put, List.setIfInBounds_toArray, List.set_cons_zero, List.set_cons_succ, i64_w, i32_w]
                        rfl
                      refine done_ (done_of HT_.out (by kernel_rfl)) ?_
                      try go_wp2
                      go_ret
                      exact ⟨by first | rfl | (simp [errW_none, errW_some] <;> rfl) | (simp only [← hji10]; first | rfl | (simp [errW_none, errW_some] <;> rfl)) | (simp [*, errW_none, errW_some] <;> rfl), by repeat (first | (with_reducible first | exact HB.out | apply below_alloc | apply pw_below_drewN | apply below_drew1) | exact HB.out)⟩
                  · rw [if_neg c41] at H
                    have c41b0 : ((t263.length : Int) == x10_1) = false := beq_eq_false_iff_ne.mpr c41
                    have c41b1 : ((t263.length : Int) != x10_1) = true := bne_iff_ne.mpr c41
                    obtain rfl := Option.some.inj H
                    try go_wp2
                    have n0_ := Aside0.mk (Kd.N_drew HO_7.out)
                    have n1_ := Aside0.mk (Kd.N_drew HO_8.out)
                    have n2_ := Aside0.mk (below_drew1 HB.out)
                    clear HO_7
                    clear HO_8
                    clear HB
                    have HO_7 := n0_
                    have HO_8 := n1_
                    have HB := n2_
                    clear n0_ n1_ n2_
                    obtain ⟨Ao73, co73, eo73⟩ := Kd.N_slice HO_8.out
                    (first | subst eo73 | (injection eo73 with f1_ f2_ f3_; have f4_ := f1_.symm; have f5_ := f3_.symm; clear f1_ f2_ f3_; subst f4_; subst f5_))
                    refine start_ (n := 23) (S := fun w' => True) (ds := []) #[false, false, false, false, false, false, false, false, false, false, false, false, false, false, false, false, false, false, false, false, false, false, false] (by kernel_rfl) rfl rfl trivial (fun hHeld => ?_); refine with_tabW laws_FnDrawPrefix.tab20 laws_FnDrawPrefix.bits20 (fun HT_ HW_ => ?_)
                    generalize wr.drew = w72 at HO_7 HO_8 HB hHeld ⊢
                    refine pure_ (i := 0) (N := some 66) (v := ?_) (a' := ?_) #[true, false, false, false, false, false, false, false, false, false, false, false, false, false, false, false, false, false, false, false, false, false, false] rfl rfl (any_of HT_.out (by kernel_rfl)) (fun _ _ _ h => h) (Or.inl ⟨by rfl, ?_⟩) ?_ ?_
                    rotate_left
                    · intro w'
                      go_simp
                      with_reducible rfl
                    rotate_left
                    · simp only [Act.put, List.setIfInBounds_toArray, List.set_cons_zero, List.set_cons_succ, i64_w, i32_w]
                      rfl
                    refine pure_ (i := 1) (N := some 67) (v := ?_) (a' := ?_) #[true, true, false, false, false, false, false, false, false, false, false, false, false, false, false, false, false, false, false, false, false, false, false] rfl rfl (any_of HT_.out (by kernel_rfl)) (fun _ _ _ h => h) (Or.inl ⟨by rfl, ?_⟩) ?_ ?_
                    rotate_left
                    · intro w'
                      go_simp
                      with_reducible rfl
                    rotate_left
                    · simp only [Act.put, List.setIfInBounds_toArray, List.set_cons_zero, List.set_cons_succ, i64_w, i32_w]
                      rfl
                    refine pure_ (i := 2) (N := some 68) (v := ?_) (a' := ?_) #[true, true, true, false, false, false, false, false, false, false, false, false, false, false, false, false, false, false, false, false, false, false, false] rfl rfl (any_of HT_.out (by kernel_rfl)) (fun _ _ _ h => h) (Or.inl ⟨by rfl, ?_⟩) ?_ ?_
                    rotate_left
                    · intro w'
                      go_simp
                      with_reducible rfl
                    rotate_left
                    · simp only [Act.put, List.setIfInBounds_toArray, List.set_cons_zero, List.set_cons_succ, i64_w, i32_w]
                      rfl
                    refine pure_ (i := 3) (N := some 69) (v := ?_) (a' := ?_) #[true, true, true, true, false, false, false, false, false, false, false, false, false, false, false, false, false, false, false, false, false, false, false] rfl rfl (any_of HT_.out (by kernel_rfl)) (fun _ _ _ h => h) (Or.inl ⟨by rfl, ?_⟩) ?_ ?_
                    rotate_left
                    · intro w'
                      go_simp
                      with_reducible rfl
                    rotate_left
                    · simp only [Act.put, List.setIfInBounds_toArray, List.set_cons_zero, List.set_cons_succ, i64_w, i32_w]
                      rfl
                    refine pure_ (i := 4) (N := some 70) (v := ?_) (a' := ?_) #[true, true, true, true, true, false, false, false, false, false, false, false, false, false, false, false, false, false, false, false, false, false, false] rfl rfl (any_of HT_.out (by kernel_rfl)) (fun _ _ _ h => h) (Or.inl ⟨by rfl, ?_⟩) ?_ ?_
                    rotate_left
                    · intro w'
                      go_simp
                      with_reducible rfl
                    rotate_left
                    · simp only [Act.put, List.setIfInBounds_toArray, List.set_cons_zero, List.set_cons_succ, i64_w, i32_w]
                      rfl
                    refine pure_ (i := 5) (N := some 71) (v := undef) (a' := ?_) #[true, true, true, true, true, true, false, false, false, false, false, false, false, false, false, false, false, false, false, false, false, false, false] rfl rfl (any_of HT_.out (by kernel_rfl)) (fun _ _ _ h => h) (Or.inr ⟨by rfl, rfl⟩) ?_ ?_
                    rotate_left
                    · simp only [Act.put, List.setIfInBounds_toArray, List.set_cons_zero, List.set_cons_succ, i64_w, i32_w]
                      rfl
                    refine pure_ (i := 6) (N := some 72) (v := undef) (a' := ?_) #[true, true, true, true, true, true, true, false, false, false, false, false, false, false, false, false, false, false, false, false, false, false, false] rfl rfl (any_of HT_.out (by kernel_rfl)) (fun _ _ _ h => h) (Or.inr ⟨by rfl, rfl⟩) ?_ ?_
                    rotate_left
                    · simp only [Act.put, List.setIfInBounds_toArray, List.set_cons_zero, List.set_cons_succ, i64_w, i32_w]
                      rfl
                    refine pure_ (i := 7) (N := some 73) (v := undef) (a' := ?_) #[true, true, true, true, true, true, true, true, false, false, false, false, false, false, false, false, false, false, false, false, false, false, false] rfl rfl (any_of HT_.out (by kernel_rfl)) (fun _ _ _ h => h) (Or.inr ⟨by rfl, rfl⟩) ?_ ?_
                    rotate_left
                    · simp only [Act.put, List.setIfInBounds_toArray, List.set_cons_zero, List.set_cons_succ, i64_w, i32_w]
                      rfl
                    refine pure_ (i := 8) (N := some 74) (v := undef) (a' := ?_) #[true, true, true, true, true, true, true, true, true, false, false, false, false, false, false, false, false, false, false, false, false, false, false] rfl rfl (any_of HT_.out (by kernel_rfl)) (fun _ _ _ h => h) (Or.inr ⟨by rfl, rfl⟩) ?_ ?_
                    rotate_left
                    · simp only [Act.put, List.setIfInBounds_toArray, List.set_cons_zero, List.set_cons_succ, i64_w, i32_w]
                      rfl
                    refine pure_ (i := 9) (N := some 75) (v := ?_) (a' := ?_) #[true, true, true, true, true, true, true, true, true, true, false, false, false, false, false, false, false, false, false, false, false, false, false] rfl rfl (any_of HT_.out (by kernel_rfl)) (fun _ _ _ h => h) (Or.inl ⟨by rfl, ?_⟩) ?_ ?_
                    rotate_left
                    · intro w'
                      go_simp
                      with_reducible rfl
                    rotate_left
                    · simp only [Act.put, List.setIfInBounds_toArray, List.set_cons_zero, List.set_cons_succ, i64_w, i32_w]
                      rfl
                    refine pure_ (i := 10) (N := some 76) (v := ?_) (a' := ?_) #[true, true, true, true, true, true, true, true, true, true, true, false, false, false, false, false, false, false, false, false, false, false, false] rfl rfl (any_of HT_.out (by kernel_rfl)) (fun _ _ _ h => h) (Or.inl ⟨by rfl, ?_⟩) ?_ ?_
                    rotate_left
                    · intro w'
                      go_simp
                      with_reducible rfl
                    rotate_left
                    · simp only [Act.put, List.setIfInBounds_toArray, List.set_cons_zero, List.set_cons_succ, i64_w, i32_w]
                      rfl
                    refine pure_ (i := 11) (N := some 77) (v := undef) (a' := ?_) #[true, true, true, true, true, true, true, true, true, true, true, true, false, false, false, false, false, false, false, false, false, false, false] rfl rfl (any_of HT_.out (by kernel_rfl)) (fun _ _ _ h => h) (Or.inr ⟨by rfl, rfl⟩) ?_ ?_
                    rotate_left
                    · simp only [Act.put, List.setIfInBounds_toArray, List.set_cons_zero, List.set_cons_succ, i64_w, i32_w]
                      rfl
                    refine pure_ (i := 12) (N := some 78) (v := undef) (a' := ?_) #[true, true, true, true, true, true, true, true, true, true, true, true, true, false, false, false, false, false, false, false, false, false, false] rfl rfl (any_of HT_.out (by kernel_rfl)) (fun _ _ _ h => h) (Or.inr ⟨by rfl, rfl⟩) ?_ ?_
                    rotate_left
                    · simp only [Act.put, List.setIfInBounds_toArray, List.set_cons_zero, List.set_cons_succ, i64_w, i32_w]
                      rfl
                    refine pure_ (i := 13) (N := some 79) (v := undef) (a' := ?_) #[true, true, true, true, true, true, true, true, true, true, true, true, true, true, false, false, false, false, false, false, false, false, false] rfl rfl (any_of HT_.out (by kernel_rfl)) (fun _ _ _ h => h) (Or.inr ⟨by rfl, rfl⟩) ?_ ?_
                    rotate_left
                    · simp only [Act.put, List.setIfInBounds_toArray, List.set_cons_zero, List.set_cons_succ, i64_w, i32_w]
                      rfl
                    refine pure_ (i := 14) (N := some 80) (v := undef) (a' := ?_) #[true, true, true, true, true, true, true, true, true, true, true, true, true, true, true, false, false, false, false, false, false, false, false] rfl rfl (any_of HT_.out (by kernel_rfl)) (fun _ _ _ h => h) (Or.inr ⟨by rfl, rfl⟩) ?_ ?_
                    rotate_left
                    · simp only [Act.put, List.setIfInBounds_toArray, List.set_cons_zero, List.set_cons_succ, i64_w, i32_w]
                      rfl
                    refine pure_ (i := 15) (N := some 81) (v := undef) (a' := ?_) #[true, true, true, true, true, true, true, true, true, true, true, true, true, true, true, true, false, false, false, false, false, false, false] rfl rfl (any_of HT_.out (by kernel_rfl)) (fun _ _ _ h => h) (Or.inr ⟨by rfl, rfl⟩) ?_ ?_
                    rotate_left
                    · simp only [Act.put, List.setIfInBounds_toArray, List.set_cons_zero, List.set_cons_succ, i64_w, i32_w]
                      rfl
                    refine pure_ (i := 16) (N := some 82) (v := undef) (a' := ?_) #[true, true, true, true, true, true, true, true, true, true, true, true, true, true, true, true, true, false, false, false, false, false, false] rfl rfl (any_of HT_.out (by kernel_rfl)) (fun _ _ _ h => h) (Or.inr ⟨by rfl, rfl⟩) ?_ ?_
                    rotate_left
                    · simp only [Act.put, List.setIfInBounds_toArray, List.set_cons_zero, List.set_cons_succ, i64_w, i32_w]
                      rfl
                    refine pure_ (i := 17) (N := some 83) (v := undef) (a' := ?_) #[true, true, true, true, true, true, true, true, true, true, true, true, true, true, true, true, true, true, false, false, false, false, false] rfl rfl (any_of HT_.out (by kernel_rfl)) (fun _ _ _ h => h) (Or.inr ⟨by rfl, rfl⟩) ?_ ?_
                    rotate_left
                    · simp only [Act.put, List.setIfInBounds_toArray, List.set_cons_zero, List.set_cons_succ, i64_w, i32_w]
                      rfl
                    refine pure_ (i := 18) (N := some 84) (v := ?_) (a' := ?_) #[true, true, true, true, true, true, true, true, true, true, true, true, true, true, true, true, true, true, true, false, false, false, false] rfl rfl (any_of HT_.out (by kernel_rfl)) (fun _ _ _ h => h) (Or.inl ⟨by rfl, ?_⟩) ?_ ?_
                    rotate_left
                    · intro w'
                      go_simp
                      with_reducible rfl
                    rotate_left
                    · simp only [Act.put, List.setIfInBounds_toArray, List.set_cons_zero, List.set_cons_succ, i64_w, i32_w]
                      rfl
                    refine pure_ (i := 19) (N := some 85) (v := ?_) (a' := ?_) #[true, true, true, true, true, true, true, true, true, true, true, true, true, true, true, true, true, true, true, true, false, false, false] rfl rfl (any_of HT_.out (by kernel_rfl)) (fun _ _ _ h => h) (Or.inl ⟨by rfl, ?_⟩) ?_ ?_
                    rotate_left
                    · intro w'
                      go_simp
                      with_reducible rfl
                    rotate_left
                    · simp only [Act.put, List.setIfInBounds_toArray, List.set_cons_zero, List.set_cons_succ, i64_w, i32_w]
                      rfl
                    refine pure_ (i := 20) (N := some 86) (v := undef) (a' := ?_) #[true, true, true, true, true, true, true, true, true, true, true, true, true, true, true, true, true, true, true, true, true, false, false] rfl rfl (any_of HT_.out (by kernel_rfl)) (fun _ _ _ h => h) (Or.inr ⟨by rfl, rfl⟩) ?_ ?_
                    rotate_left
                    · simp only [Act.put, List.setIfInBounds_toArray, List.set_cons_zero, List.set_cons_succ, i64_w, i32_w]
                      rfl
                    refine pure_ (i := 21) (N := some 87) (v := ?_) (a' := ?_) #[true, true, true, true, true, true, true, true, true, true, true, true, true, true, true, true, true, true, true, true, true, true, false] rfl rfl (any_of HT_.out (by kernel_rfl)) (fun _ _ _ h => h) (Or.inl ⟨by rfl, ?_⟩) ?_ ?_
                    rotate_left
                    · intro w'
                      go_simp
                      with_reducible rfl
                    rotate_left
                    · simp only [Act.put, List.setIfInBounds_toArray, List.set_cons_zero, List.set_cons_succ, i64_w, i32_w]
                      rfl
                    refine pure_ (i := 22) (N := some 4) (v := ?_) (a' := ?_) #[true, true, true, true, true, true, true, true, true, true, true, true, true, true, true, true, true, true, true, true, true, true, true] rfl rfl (any_of HT_.out (by kernel_rfl)) (fun _ _ _ h => h) (Or.inl ⟨by rfl, ?_⟩) ?_ ?_
                    rotate_left
                    · intro w'
                      go_simp
                      with_reducible rfl
                    rotate_left
                    · simp only [Act.put, List.setIfInBounds_toArray, List.set_cons_zero, List.set_cons_succ, i64_w, i32_w]
                      rfl
                    refine done_ (done_of HT_.out (by kernel_rfl)) ?_
                    try go_wp2
                    go_ret
                    exact ⟨by first | rfl | (simp [errW_none, errW_some] <;> rfl) | (simp only [← hji10]; first | rfl | (simp [errW_none, errW_some] <;> rfl)) | (simp [*, errW_none, errW_some] <;> rfl), by repeat (first | (with_reducible first | exact HB.out | apply below_alloc | apply pw_below_drewN | apply below_drew1) | exact HB.out)⟩
          · rw [if_neg c12] at H
            exact absurd H (by simp)
        · rw [if_neg c11] at H
          exact absurd H (by simp)
    · replace c6 := Bool.eq_false_iff.mpr c6
      subst c6
      have H1 : ((laws_drawAwake.f).bind fun t251 => (some t251)) = some r := by rw [if_neg (show ¬ (false = true) by decide)] at H; exact H
      clear H
      have H := H1
      clear H1
      replace H := Option.bind_eq_some_iff.mp H
      obtain ⟨t251, A740, H⟩ := H
      replace H : (some t251) = some r := H
      have A74 := Aside0.mk A740
      clear A740
      obtain rfl := Option.some.inj H
      go_enter Tryz.func8, Tryz.ntmps8
      go_wp2_with (first | ((with_reducible refine gate_callee (f := 19) rfl ?_); refine goesL_ (some 15) rfl rfl Tryz.func19 (by kernel_rfl) rfl #[.slice A0 l0.length c0] rfl (by (try simp only [List.map_toArray, List.map_cons, List.map_nil]); first | done | rfl | (simp only [List.length_drop, List.length_take]; rfl)) ?_; (with_reducible refine (laws_zzFits3.calls k _ _ l0 true _ ?side1 ?side2 A3.out).mono ?_); (case side1 => repeat (first | exact HR0.out | (with_reducible refine Kd.C_alloc ?_ _) | (with_reducible refine Kd.C_drewN ?_ _) | (with_reducible refine Kd.C_drew ?_))); (case side2 => exact HC0.out); rintro e w75 ⟨rfl, hb⟩; refine ⟨_, rfl, ?_⟩; have n0_ := Aside0.mk (below_step (by repeat (first | (with_reducible first | exact HB.out | apply below_alloc | apply pw_below_drewN | apply below_drew1) | exact HB.out)) hb); clear HB; have HB := n0_; clear n0_; (try clear hb); (try clear hb2); (try clear hk); (try clear hi)) | ((with_reducible refine gate_callee (f := 20) rfl ?_); refine goesL_ (some 18) rfl rfl Tryz.func20 (by kernel_rfl) rfl #[.slice A0 l0.length c0] rfl (by (try simp only [List.map_toArray, List.map_cons, List.map_nil]); first | done | rfl | (simp only [List.length_drop, List.length_take]; rfl)) ?_; (with_reducible refine (spec_IsDrawPlan.calls k _ _ l0 false _ ?side1 ?side2 A5.out).mono ?_); (case side1 => repeat (first | exact (Kd.C_below HR0.out HB.out) | (with_reducible refine Kd.C_alloc ?_ _) | (with_reducible refine Kd.C_drewN ?_ _) | (with_reducible refine Kd.C_drew ?_))); (case side2 => exact HC0.out); rintro e w76 ⟨rfl, hb⟩; refine ⟨_, rfl, ?_⟩; have n0_ := Aside0.mk (below_step (by repeat (first | (with_reducible first | exact HB.out | apply below_alloc | apply pw_below_drewN | apply below_drew1) | exact HB.out)) hb); clear HB; have HB := n0_; clear n0_; (try clear hb); (try clear hb2); (try clear hk); (try clear hi)) | ((with_reducible refine gate_callee (f := 18) rfl ?_); refine goesL_ (some 20) rfl rfl Tryz.func18 (by kernel_rfl) rfl #[] rfl (by (try simp only [List.map_toArray, List.map_cons, List.map_nil]); first | done | rfl | (simp only [List.length_drop, List.length_take]; rfl)) ?_; (with_reducible refine (laws_drawAwake.calls  t251 _ ?side1 A74.out).mono ?_); (case side1 => exact XTab.below HT.out (by repeat (first | (with_reducible first | exact HB.out | apply below_alloc | apply pw_below_drewN | apply below_drew1) | exact HB.out))); rintro e w77 ⟨rfl, hb⟩; refine ⟨_, rfl, ?_⟩; have n0_ := Aside0.mk (below_step (by repeat (first | (with_reducible first | exact HB.out | apply below_alloc | apply pw_below_drewN | apply below_drew1) | exact HB.out)) hb); clear HB; have HB := n0_; clear n0_; (try clear hb); (try clear hb2); (try clear hk); (try clear hi)))
      go_ret
      exact ⟨by first | rfl | (simp [errW_none, errW_some] <;> rfl) | (simp [*, errW_none, errW_some] <;> rfl), by repeat (first | (with_reducible first | exact HB.out | apply below_alloc | apply pw_below_drewN | apply below_drew1) | exact HB.out)⟩
  · replace c4 := Bool.eq_false_iff.mpr c4
    subst c4
    have H1 : (some true) = some r := by rw [if_neg (show ¬ (false = true) by decide)] at H; exact H
    clear H
    have H := H1
    clear H1
    obtain rfl := Option.some.inj H
    go_enter Tryz.func8, Tryz.ntmps8
    go_wp2_with (first | ((with_reducible refine gate_callee (f := 19) rfl ?_); refine goesL_ (some 15) rfl rfl Tryz.func19 (by kernel_rfl) rfl #[.slice A0 l0.length c0] rfl (by (try simp only [List.map_toArray, List.map_cons, List.map_nil]); first | done | rfl | (simp only [List.length_drop, List.length_take]; rfl)) ?_; (with_reducible refine (laws_zzFits3.calls k _ _ l0 false _ ?side1 ?side2 A3.out).mono ?_); (case side1 => repeat (first | exact HR0.out | (with_reducible refine Kd.C_alloc ?_ _) | (with_reducible refine Kd.C_drewN ?_ _) | (with_reducible refine Kd.C_drew ?_))); (case side2 => exact HC0.out); rintro e w78 ⟨rfl, hb⟩; refine ⟨_, rfl, ?_⟩; have n0_ := Aside0.mk (below_step (by repeat (first | (with_reducible first | exact HB.out | apply below_alloc | apply pw_below_drewN | apply below_drew1) | exact HB.out)) hb); clear HB; have HB := n0_; clear n0_; (try clear hb); (try clear hb2); (try clear hk); (try clear hi)))
    go_ret
    exact ⟨by first | rfl | (simp [errW_none, errW_some] <;> rfl) | (simp [*, errW_none, errW_some] <;> rfl), by repeat (first | (with_reducible first | exact HB.out | apply below_alloc | apply pw_below_drewN | apply below_drew1) | exact HB.out)⟩
end Go.Proofs.YtaaejhodlindeaaGreatDoor.Y
end
