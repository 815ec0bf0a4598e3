/- Texts of this claim, joined: Y48 Y49 Y66. Of each, what the claim uses. -/
import Derived.Test.YteebhoehflgfoaaGreatDoorKac
import Derived.Test.YteebhoehflgfoaaGreatDoorKbg
import Derived.Test.YteebhoehflgfoaaGreatDoorKat
import Derived.Test.YteebhoehflgfoaaGreatDoorKbd
import Derived.Test.YteebhoehflgfoaaGreatDoorKav
section
namespace Go.Proofs.YteebhoehflgfoaaGreatDoor.Y
open Go.RowKit Go.Proofs.YteebhoehflgfoaaGreatDoorW.PrintWords Go.Proofs.YteebhoehflgfoaaGreatDoorW.PrintLast Go.Proofs.YteebhoehflgfoaaGreatDoorW.PrintMore
attribute [local go_sem] max2_int min2_int max_two min_two max_three min_three max_four min_four
set_option linter.unusedVariables false
set_option linter.unusedSimpArgs false
set_option maxHeartbeats 8000000 in
set_option maxRecDepth 100000 in
theorem impl_MakePair.calls (k : Nat) (a0 : Int) (a1 : Int) (a2 : Int) (r : ByteArray) (w : World) (hT : XTab w) (h : impl_MakePair.f k a0 a1 a2 = some r) :
  Calls Tryz.prog 58 #[.int .i64 a0, .int .i64 a1, .int .i64 a2] w fun e w' => e = .returned (.string r) ∧ Below w.heap.size w w' := by
 have HT := Aside0.mk hT
 clear hT
 have HB := Aside0.mk (Below.refl w.heap.size w)
 have H : (if a0 = 0 then ((xansi_CursorPosition.f k a1 a2).bind fun t139 => (some t139)) else (if a0 = 1 then ((xansi_HorizontalVerticalPosition.f a1 a2).bind fun t140 => (some t140)) else (if a0 = 2 then ((xansi_SetTopBottomMargins.f a1 a2).bind fun t141 => (some t141)) else (if a0 = 3 then (none) else (if a0 = 4 then (none) else (if a0 = 5 then (none) else (if a0 = 6 then (none) else (some (⟨#[]⟩ : ByteArray))))))))) = some r := h
 clear h
 by_cases c4 : a0 = 0
 ·rw [if_pos c4] at H
  have c4b0 : (a0 == 0) = true := beq_iff_eq.mpr c4
  have c4b1 : (a0 != 0) = false := bne_eq_false_iff_eq.mpr c4
  clear c4
  replace H := Option.bind_eq_some_iff.mp H
  obtain ⟨t139, A50, H⟩ := H
  replace H : (some t139) = some r := H
  have A5 := Aside0.mk A50
  clear A50
  obtain rfl := Option.some.inj H
  go_enter Tryz.func58, Tryz.ntmps58
  go_wp2_with (first | ((with_reducible refine gate_callee (f := 114) rfl ?_); refine goesL_ (some 16) rfl rfl Tryz.func114 (by kernel_rfl) rfl #[.int .i64 a1, .int .i64 a2] rfl (by (try simp only [List.map_toArray, List.map_cons, List.map_nil]); first | done | rfl | (simp only [List.length_drop, List.length_take]; rfl)) ?_; (with_reducible refine (xansi_CursorPosition.calls k a1 a2 t139 _ ?side1 A5.out).mono ?_); (case side1 => exact XTab.below HT.out (by repeat (first | (with_reducible first | exact HB.out | apply below_alloc | apply pw_below_drewN | apply below_drew1) | exact HB.out))); rintro e w6 ⟨rfl, hb⟩; refine ⟨_, rfl, ?_⟩; have n0_ := Aside0.mk (below_step (by repeat (first | (with_reducible first | exact HB.out | apply below_alloc | apply pw_below_drewN | apply below_drew1) | exact HB.out)) hb); clear HB; have HB := n0_; clear n0_; (try clear hb); (try clear hb2); (try clear hk); (try clear hi)))
  go_ret
  exact ⟨by first | rfl | (simp [errW_none, errW_some] <;> rfl) | (simp [*, errW_none, errW_some] <;> rfl), by repeat (first | (with_reducible first | exact HB.out | apply below_alloc | apply pw_below_drewN | apply below_drew1) | exact HB.out)⟩
 ·rw [if_neg c4] at H
  have c4b0 : (a0 == 0) = false := beq_eq_false_iff_ne.mpr c4
  have c4b1 : (a0 != 0) = true := bne_iff_ne.mpr c4
  by_cases c7 : a0 = 1
  ·rw [if_pos c7] at H
   have c7b0 : (a0 == 1) = true := beq_iff_eq.mpr c7
   have c7b1 : (a0 != 1) = false := bne_eq_false_iff_eq.mpr c7
   clear c7
   replace H := Option.bind_eq_some_iff.mp H
   obtain ⟨t140, A80, H⟩ := H
   replace H : (some t140) = some r := H
   have A8 := Aside0.mk A80
   clear A80
   obtain rfl := Option.some.inj H
   go_enter Tryz.func58, Tryz.ntmps58
   go_wp2_with (first | ((with_reducible refine gate_callee (f := 115) rfl ?_); refine goesL_ (some 21) rfl rfl Tryz.func115 (by kernel_rfl) rfl #[.int .i64 a1, .int .i64 a2] rfl (by (try simp only [List.map_toArray, List.map_cons, List.map_nil]); first | done | rfl | (simp only [List.length_drop, List.length_take]; rfl)) ?_; (with_reducible refine (xansi_HorizontalVerticalPosition.calls a1 a2 t140 _ ?side1 A8.out).mono ?_); (case side1 => exact XTab.below HT.out (by repeat (first | (with_reducible first | exact HB.out | apply below_alloc | apply pw_below_drewN | apply below_drew1) | exact HB.out))); rintro e w9 ⟨rfl, hb⟩; refine ⟨_, rfl, ?_⟩; have n0_ := Aside0.mk (below_step (by repeat (first | (with_reducible first | exact HB.out | apply below_alloc | apply pw_below_drewN | apply below_drew1) | exact HB.out)) hb); clear HB; have HB := n0_; clear n0_; (try clear hb); (try clear hb2); (try clear hk); (try clear hi)))
   go_ret
   exact ⟨by first | rfl | (simp [errW_none, errW_some] <;> rfl) | (simp [*, errW_none, errW_some] <;> rfl), by repeat (first | (with_reducible first | exact HB.out | apply below_alloc | apply pw_below_drewN | apply below_drew1) | exact HB.out)⟩
  ·rw [if_neg c7] at H
   have c7b0 : (a0 == 1) = false := beq_eq_false_iff_ne.mpr c7
   have c7b1 : (a0 != 1) = true := bne_iff_ne.mpr c7
   by_cases c10 : a0 = 2
   ·rw [if_pos c10] at H
    have c10b0 : (a0 == 2) = true := beq_iff_eq.mpr c10
    have c10b1 : (a0 != 2) = false := bne_eq_false_iff_eq.mpr c10
    clear c10
    replace H := Option.bind_eq_some_iff.mp H
    obtain ⟨t141, A110, H⟩ := H
    replace H : (some t141) = some r := H
    have A11 := Aside0.mk A110
    clear A110
    obtain rfl := Option.some.inj H
    go_enter Tryz.func58, Tryz.ntmps58
    go_wp2_with (first | ((with_reducible refine gate_callee (f := 116) rfl ?_); refine goesL_ (some 26) rfl rfl Tryz.func116 (by kernel_rfl) rfl #[.int .i64 a1, .int .i64 a2] rfl (by (try simp only [List.map_toArray, List.map_cons, List.map_nil]); first | done | rfl | (simp only [List.length_drop, List.length_take]; rfl)) ?_; (with_reducible refine (xansi_SetTopBottomMargins.calls a1 a2 t141 _ ?side1 A11.out).mono ?_); (case side1 => exact XTab.below HT.out (by repeat (first | (with_reducible first | exact HB.out | apply below_alloc | apply pw_below_drewN | apply below_drew1) | exact HB.out))); rintro e w12 ⟨rfl, hb⟩; refine ⟨_, rfl, ?_⟩; have n0_ := Aside0.mk (below_step (by repeat (first | (with_reducible first | exact HB.out | apply below_alloc | apply pw_below_drewN | apply below_drew1) | exact HB.out)) hb); clear HB; have HB := n0_; clear n0_; (try clear hb); (try clear hb2); (try clear hk); (try clear hi)))
    go_ret
    exact ⟨by first | rfl | (simp [errW_none, errW_some] <;> rfl) | (simp [*, errW_none, errW_some] <;> rfl), by repeat (first | (with_reducible first | exact HB.out | apply below_alloc | apply pw_below_drewN | apply below_drew1) | exact HB.out)⟩
   ·rw [if_neg c10] at H
    have c10b0 : (a0 == 2) = false := beq_eq_false_iff_ne.mpr c10
    have c10b1 : (a0 != 2) = true := bne_iff_ne.mpr c10
    by_cases c13 : a0 = 3
    ·rw [if_pos c13] at H
     exact absurd H (by simp)
    ·rw [if_neg c13] at H
     have c13b0 : (a0 == 3) = false := beq_eq_false_iff_ne.mpr c13
     have c13b1 : (a0 != 3) = true := bne_iff_ne.mpr c13
     by_cases c14 : a0 = 4
     ·rw [if_pos c14] at H
      exact absurd H (by simp)
     ·rw [if_neg c14] at H
      have c14b0 : (a0 == 4) = false := beq_eq_false_iff_ne.mpr c14
      have c14b1 : (a0 != 4) = true := bne_iff_ne.mpr c14
      by_cases c15 : a0 = 5
      ·rw [if_pos c15] at H
       exact absurd H (by simp)
      ·rw [if_neg c15] at H
       have c15b0 : (a0 == 5) = false := beq_eq_false_iff_ne.mpr c15
       have c15b1 : (a0 != 5) = true := bne_iff_ne.mpr c15
       by_cases c16 : a0 = 6
       ·rw [if_pos c16] at H
        exact absurd H (by simp)
       ·rw [if_neg c16] at H
        have c16b0 : (a0 == 6) = false := beq_eq_false_iff_ne.mpr c16
        have c16b1 : (a0 != 6) = true := bne_iff_ne.mpr c16
        obtain rfl := Option.some.inj H
        go_enter Tryz.func58, Tryz.ntmps58
        go_wp2
        go_ret
        exact ⟨by first | rfl | (simp [errW_none, errW_some] <;> rfl) | (simp [*, errW_none, errW_some] <;> rfl), by repeat (first | (with_reducible first | exact HB.out | apply below_alloc | apply pw_below_drewN | apply below_drew1) | exact HB.out)⟩
set_option maxHeartbeats 8000000 in
set_option maxRecDepth 100000 in
theorem laws_drawMade.calls (k : Nat) (a0_0 : Int) (a0_1 : Int) (a0_2 : Int) (a0_3 : ByteArray) (A0_4 : Option Addr) (c0_4 : Nat) (l0_4 : List Int) (r : ByteArray) (w : World) (hT : XTab w) (hr0_4 : Kd.C (Kd.int .i64) w A0_4 l0_4.length l0_4) (hc0_4 : l0_4.length ≤ c0_4) (h : laws_drawMade.f k a0_0 a0_1 a0_2 a0_3 l0_4 = some r) :
  Calls Tryz.prog 12 #[.agg #[.int .i64 a0_0, .int .i64 a0_1, .int .i64 a0_2, .string a0_3, .slice A0_4 l0_4.length c0_4]] w fun e w' => e = .returned (.string r) ∧ Below w.heap.size w w' := by
 have hu38 := Tryz.underlying38
 have HT := Aside0.mk hT
 clear hT
 have HR0_4 := Aside0.mk hr0_4
 have HC0_4 := Aside0.mk hc0_4
 clear hr0_4 hc0_4
 have HB := Aside0.mk (Below.refl w.heap.size w)
 have H : ((spec_IsDrawNumber.f a0_0).bind fun t143 => (if t143 = true then ((impl_MakeNumber.f a0_0 a0_1).bind fun t144 => (some t144)) else (if a0_0 = 40 then (laws_drawMade.j0 k true a0_0 a0_1 a0_2 a0_3 l0_4) else (if a0_0 = 41 then (laws_drawMade.j0 k true a0_0 a0_1 a0_2 a0_3 l0_4) else (laws_drawMade.j0 k (a0_0 == 42) a0_0 a0_1 a0_2 a0_3 l0_4))))) = some r := h
 clear h
 replace H := Option.bind_eq_some_iff.mp H
 obtain ⟨t143, A20, H⟩ := H
 replace H : (if t143 = true then ((impl_MakeNumber.f a0_0 a0_1).bind fun t144 => (some t144)) else (if a0_0 = 40 then (laws_drawMade.j0 k true a0_0 a0_1 a0_2 a0_3 l0_4) else (if a0_0 = 41 then (laws_drawMade.j0 k true a0_0 a0_1 a0_2 a0_3 l0_4) else (laws_drawMade.j0 k (a0_0 == 42) a0_0 a0_1 a0_2 a0_3 l0_4)))) = some r := H
 have A2 := Aside0.mk A20
 clear A20
 by_cases c3 : t143 = true
 ·subst c3
  have H1 : ((impl_MakeNumber.f a0_0 a0_1).bind fun t144 => (some t144)) = some r := by rw [if_pos rfl] at H; exact H
  clear H
  have H := H1
  clear H1
  replace H := Option.bind_eq_some_iff.mp H
  obtain ⟨t144, A40, H⟩ := H
  replace H : (some t144) = some r := H
  have A4 := Aside0.mk A40
  clear A40
  obtain rfl := Option.some.inj H
  go_enter Tryz.func12, Tryz.ntmps12
  go_wp2_with (first | ((with_reducible refine gate_dst (N := 1) rfl ?_); refine box_event ?hg (N := 1) ?hd (cs := #[.int .i64 a0_0, .int .i64 a0_1, .int .i64 a0_2, .string a0_3, .slice A0_4 l0_4.length c0_4]) (t := 38) ?hr ?_; (case hd => rfl); (case hg => rfl); (case hr => first | (go_simp; done) | (go_simp; rfl)); intro gb142 hg w5 hbox hb; have n0_ := Aside0.mk (below_step (by repeat (first | (with_reducible first | exact HB.out | apply below_alloc | apply pw_below_drewN | apply below_drew1) | exact HB.out)) hb); have n1_ := Aside0.mk (hbox); have n2_ := Aside0.mk ((by rw [hg]; exact (below_size (by repeat (first | (with_reducible first | exact HB.out | apply below_alloc | apply pw_below_drewN | apply below_drew1) | exact HB.out))) : w.heap.size ≤ gb142)); have n3_ := Aside0.mk ((by rw [hg]; exact (below_size (by repeat (first | (with_reducible first | exact HB.out | apply below_alloc | apply pw_below_drewN | apply below_drew1) | exact HB.out))) : w.heap.size ≤ gb142)); clear HB; have HB := n0_; have BK142 := n1_; have GW142 := n2_; have GE142 := n3_; clear n0_ n1_ n2_ n3_; clear hb hbox hg; have hcz6_0 : w5.cell? ⟨gb142, 0, none⟩ = some (.int .i64 a0_0) := (blk_cell BK142.out 0).trans rfl; have hcz6_1 : w5.cell? ⟨gb142, 1, none⟩ = some (.int .i64 a0_1) := (blk_cell BK142.out 1).trans rfl; have hcz6_2 : w5.cell? ⟨gb142, 2, none⟩ = some (.int .i64 a0_2) := (blk_cell BK142.out 2).trans rfl; have hcz6_3 : w5.cell? ⟨gb142, 3, none⟩ = some (.string a0_3) := (blk_cell BK142.out 3).trans rfl; have hcz6_4 : w5.cell? ⟨gb142, 4, none⟩ = some (.slice A0_4 l0_4.length c0_4) := (blk_cell BK142.out 4).trans rfl; have hfz6_0 := blk_frozen BK142.out 0; have hfz6_1 := blk_frozen BK142.out 1; have hfz6_2 := blk_frozen BK142.out 2; have hfz6_3 := blk_frozen BK142.out 3; have hfz6_4 := blk_frozen BK142.out 4) | ((with_reducible refine gate_callee (f := 57) rfl ?_); refine goesL_ (some 6) rfl rfl Tryz.func57 (by kernel_rfl) rfl #[.int .i64 a0_0] rfl (by (try simp only [List.map_toArray, List.map_cons, List.map_nil]); first | done | rfl | (simp only [List.length_drop, List.length_take]; rfl)) ?_; (with_reducible refine (spec_IsDrawNumber.calls a0_0 true _ A2.out).mono ?_); rintro e w' ⟨rfl, ⟨nd, rfl⟩⟩; refine ⟨_, rfl, ?_⟩) | ((with_reducible refine gate_callee (f := 19) rfl ?_); refine goesL_ (some 11) rfl rfl Tryz.func19 (by kernel_rfl) rfl #[.int .i64 a0_0, .int .i64 a0_1] rfl (by (try simp only [List.map_toArray, List.map_cons, List.map_nil]); first | done | rfl | (simp only [List.length_drop, List.length_take]; rfl)) ?_; (with_reducible refine (impl_MakeNumber.calls a0_0 a0_1 t144 _ ?side1 A4.out).mono ?_); (case side1 => exact XTab.below HT.out (by repeat (first | (with_reducible first | exact HB.out | apply below_alloc | apply pw_below_drewN | apply below_drew1 | refine below_set ?_ GE142.out) | exact HB.out))); rintro e w7 ⟨rfl, hb⟩; refine ⟨_, rfl, ?_⟩; have n0_ := Aside0.mk (blk_below (g := gb142) (o := .cells #[.int .i64 a0_0, .int .i64 a0_1, .int .i64 a0_2, .string a0_3, .slice A0_4 l0_4.length c0_4] 38 (0, 0)) (by (with_reducible repeat (first | refine blk_drewN ?_ _ | refine blk_drew ?_ | refine blk_alloc ?_ _)); exact BK142.out) hb); have n1_ := Aside0.mk (below_step (by repeat (first | (with_reducible first | exact HB.out | apply below_alloc | apply pw_below_drewN | apply below_drew1 | refine below_set ?_ GE142.out) | exact HB.out)) hb); clear BK142; clear HB; have BK142 := n0_; have HB := n1_; clear n0_ n1_; (try clear hb); (try clear hb2); (try clear hk); (try clear hi)))
  go_ret
  exact ⟨by first | rfl | (simp [errW_none, errW_some] <;> rfl) | (simp [*, errW_none, errW_some] <;> rfl), by repeat (first | (with_reducible first | exact HB.out | apply below_alloc | apply pw_below_drewN | apply below_drew1 | refine below_set ?_ GE142.out) | exact HB.out)⟩
 ·replace c3 := Bool.eq_false_iff.mpr c3
  subst c3
  have H1 : (if a0_0 = 40 then (laws_drawMade.j0 k true a0_0 a0_1 a0_2 a0_3 l0_4) else (if a0_0 = 41 then (laws_drawMade.j0 k true a0_0 a0_1 a0_2 a0_3 l0_4) else (laws_drawMade.j0 k (a0_0 == 42) a0_0 a0_1 a0_2 a0_3 l0_4))) = some r := by rw [if_neg (show ¬ (false = true) by decide)] at H; exact H
  clear H
  have H := H1
  clear H1
  have HC8 := Aside0.mk H
  clear H
  go_enter Tryz.func12, Tryz.ntmps12
  go_upto_region 3 with (first | ((with_reducible refine gate_dst (N := 1) rfl ?_); refine box_event ?hg (N := 1) ?hd (cs := #[.int .i64 a0_0, .int .i64 a0_1, .int .i64 a0_2, .string a0_3, .slice A0_4 l0_4.length c0_4]) (t := 38) ?hr ?_; (case hd => rfl); (case hg => rfl); (case hr => first | (go_simp; done) | (go_simp; rfl)); intro gb142 hg w9 hbox hb; have n0_ := Aside0.mk (below_step (by repeat (first | (with_reducible first | exact HB.out | apply below_alloc | apply pw_below_drewN | apply below_drew1) | exact HB.out)) hb); have n1_ := Aside0.mk (hbox); have n2_ := Aside0.mk ((by rw [hg]; exact (below_size (by repeat (first | (with_reducible first | exact HB.out | apply below_alloc | apply pw_below_drewN | apply below_drew1) | exact HB.out))) : w.heap.size ≤ gb142)); have n3_ := Aside0.mk ((by rw [hg]; exact (below_size (by repeat (first | (with_reducible first | exact HB.out | apply below_alloc | apply pw_below_drewN | apply below_drew1) | exact HB.out))) : w.heap.size ≤ gb142)); clear HB; have HB := n0_; have BK142 := n1_; have GW142 := n2_; have GE142 := n3_; clear n0_ n1_ n2_ n3_; clear hb hbox hg; have hcz10_0 : w9.cell? ⟨gb142, 0, none⟩ = some (.int .i64 a0_0) := (blk_cell BK142.out 0).trans rfl; have hcz10_1 : w9.cell? ⟨gb142, 1, none⟩ = some (.int .i64 a0_1) := (blk_cell BK142.out 1).trans rfl; have hcz10_2 : w9.cell? ⟨gb142, 2, none⟩ = some (.int .i64 a0_2) := (blk_cell BK142.out 2).trans rfl; have hcz10_3 : w9.cell? ⟨gb142, 3, none⟩ = some (.string a0_3) := (blk_cell BK142.out 3).trans rfl; have hcz10_4 : w9.cell? ⟨gb142, 4, none⟩ = some (.slice A0_4 l0_4.length c0_4) := (blk_cell BK142.out 4).trans rfl; have hfz10_0 := blk_frozen BK142.out 0; have hfz10_1 := blk_frozen BK142.out 1; have hfz10_2 := blk_frozen BK142.out 2; have hfz10_3 := blk_frozen BK142.out 3; have hfz10_4 := blk_frozen BK142.out 4) | ((with_reducible refine gate_callee (f := 57) rfl ?_); refine goesL_ (some 6) rfl rfl Tryz.func57 (by kernel_rfl) rfl #[.int .i64 a0_0] rfl (by (try simp only [List.map_toArray, List.map_cons, List.map_nil]); first | done | rfl | (simp only [List.length_drop, List.length_take]; rfl)) ?_; (with_reducible refine (spec_IsDrawNumber.calls a0_0 false _ A2.out).mono ?_); rintro e w' ⟨rfl, ⟨nd, rfl⟩⟩; refine ⟨_, rfl, ?_⟩))
  (try simp only [Act.put, List.setIfInBounds_toArray, List.set_cons_zero, List.set_cons_succ])
  go_cut [12] (fun v12 wc => ∃ (kq : Nat) (x12_7 : Bool), v12 = .bool x12_7 ∧ Aside0 (laws_drawMade.j0 kq x12_7 a0_0 a0_1 a0_2 a0_3 l0_4 = some r) ∧ Aside0 (kq ≤ k) ∧ Aside0 (wc.heap[gb142]? = some (.cells #[.int .i64 a0_0, .int .i64 a0_1, .int .i64 a0_2, .string a0_3, (.slice A0_4 l0_4.length c0_4)] 38 (0, 0))) ∧ Aside0 (Below w.heap.size w wc))
  case first =>
   have H := HC8.out
   clear HC8
   by_cases c11 : a0_0 = 40
   ·rw [if_pos c11] at H
    have c11b0 : (a0_0 == 40) = true := beq_iff_eq.mpr c11
    have c11b1 : (a0_0 != 40) = false := bne_eq_false_iff_eq.mpr c11
    clear c11
    (first | rw [c11b0] | (simp only [i64_w, i32_w]; rw [c11b0]) | skip)
    have H' := Aside0.mk H
    clear H
    have hcz12_0 : w9.cell? ⟨gb142, 0, none⟩ = some (.int .i64 a0_0) := (blk_cell BK142.out 0).trans rfl
    have hcz12_1 : w9.cell? ⟨gb142, 1, none⟩ = some (.int .i64 a0_1) := (blk_cell BK142.out 1).trans rfl
    have hcz12_2 : w9.cell? ⟨gb142, 2, none⟩ = some (.int .i64 a0_2) := (blk_cell BK142.out 2).trans rfl
    have hcz12_3 : w9.cell? ⟨gb142, 3, none⟩ = some (.string a0_3) := (blk_cell BK142.out 3).trans rfl
    have hcz12_4 : w9.cell? ⟨gb142, 4, none⟩ = some (.slice A0_4 l0_4.length c0_4) := (blk_cell BK142.out 4).trans rfl
    have hfz12_0 := blk_frozen BK142.out 0
    have hfz12_1 := blk_frozen BK142.out 1
    have hfz12_2 := blk_frozen BK142.out 2
    have hfz12_3 := blk_frozen BK142.out 3
    have hfz12_4 := blk_frozen BK142.out 4
    go_wp2
    go_meet
    case rel => exact ⟨_, (true), (by first | rfl | (simp; done) | (simp [*]; done)), H', ⟨by first | omega | exact Nat.le_refl _⟩, ⟨by (with_reducible repeat (first | refine blk_drewN ?_ _ | refine blk_drew ?_ | refine blk_alloc ?_ _)); exact BK142.out⟩, ⟨by repeat (first | (with_reducible first | exact HB.out | apply below_alloc | apply pw_below_drewN | apply below_drew1 | refine below_set ?_ GE142.out) | exact HB.out)⟩⟩
   ·rw [if_neg c11] at H
    have c11b0 : (a0_0 == 40) = false := beq_eq_false_iff_ne.mpr c11
    have c11b1 : (a0_0 != 40) = true := bne_iff_ne.mpr c11
    (first | rw [c11b0] | (simp only [i64_w, i32_w]; rw [c11b0]) | skip)
    by_cases c13 : a0_0 = 41
    ·rw [if_pos c13] at H
     have c13b0 : (a0_0 == 41) = true := beq_iff_eq.mpr c13
     have c13b1 : (a0_0 != 41) = false := bne_eq_false_iff_eq.mpr c13
     clear c13
     have H' := Aside0.mk H
     clear H
     have hcz14_0 : w9.cell? ⟨gb142, 0, none⟩ = some (.int .i64 a0_0) := (blk_cell BK142.out 0).trans rfl
     have hcz14_1 : w9.cell? ⟨gb142, 1, none⟩ = some (.int .i64 a0_1) := (blk_cell BK142.out 1).trans rfl
     have hcz14_2 : w9.cell? ⟨gb142, 2, none⟩ = some (.int .i64 a0_2) := (blk_cell BK142.out 2).trans rfl
     have hcz14_3 : w9.cell? ⟨gb142, 3, none⟩ = some (.string a0_3) := (blk_cell BK142.out 3).trans rfl
     have hcz14_4 : w9.cell? ⟨gb142, 4, none⟩ = some (.slice A0_4 l0_4.length c0_4) := (blk_cell BK142.out 4).trans rfl
     have hfz14_0 := blk_frozen BK142.out 0
     have hfz14_1 := blk_frozen BK142.out 1
     have hfz14_2 := blk_frozen BK142.out 2
     have hfz14_3 := blk_frozen BK142.out 3
     have hfz14_4 := blk_frozen BK142.out 4
     go_wp2
     go_meet
     case rel => exact ⟨_, (true), (by first | rfl | (simp; done) | (simp [*]; done)), H', ⟨by first | omega | exact Nat.le_refl _⟩, ⟨by (with_reducible repeat (first | refine blk_drewN ?_ _ | refine blk_drew ?_ | refine blk_alloc ?_ _)); exact BK142.out⟩, ⟨by repeat (first | (with_reducible first | exact HB.out | apply below_alloc | apply pw_below_drewN | apply below_drew1 | refine below_set ?_ GE142.out) | exact HB.out)⟩⟩
    ·rw [if_neg c13] at H
     have c13b0 : (a0_0 == 41) = false := beq_eq_false_iff_ne.mpr c13
     have c13b1 : (a0_0 != 41) = true := bne_iff_ne.mpr c13
     have H' := Aside0.mk H
     clear H
     have hcz15_0 : w9.cell? ⟨gb142, 0, none⟩ = some (.int .i64 a0_0) := (blk_cell BK142.out 0).trans rfl
     have hcz15_1 : w9.cell? ⟨gb142, 1, none⟩ = some (.int .i64 a0_1) := (blk_cell BK142.out 1).trans rfl
     have hcz15_2 : w9.cell? ⟨gb142, 2, none⟩ = some (.int .i64 a0_2) := (blk_cell BK142.out 2).trans rfl
     have hcz15_3 : w9.cell? ⟨gb142, 3, none⟩ = some (.string a0_3) := (blk_cell BK142.out 3).trans rfl
     have hcz15_4 : w9.cell? ⟨gb142, 4, none⟩ = some (.slice A0_4 l0_4.length c0_4) := (blk_cell BK142.out 4).trans rfl
     have hfz15_0 := blk_frozen BK142.out 0
     have hfz15_1 := blk_frozen BK142.out 1
     have hfz15_2 := blk_frozen BK142.out 2
     have hfz15_3 := blk_frozen BK142.out 3
     have hfz15_4 := blk_frozen BK142.out 4
     go_wp2
     go_meet
     case rel => exact ⟨_, ((a0_0 == 42)), (by first | rfl | (simp; done) | (simp [*]; done)), H', ⟨by first | omega | exact Nat.le_refl _⟩, ⟨by (with_reducible repeat (first | refine blk_drewN ?_ _ | refine blk_drew ?_ | refine blk_alloc ?_ _)); exact BK142.out⟩, ⟨by repeat (first | (with_reducible first | exact HB.out | apply below_alloc | apply pw_below_drewN | apply below_drew1 | refine below_set ?_ GE142.out) | exact HB.out)⟩⟩
  case rest =>
   clear HC8
   try clear c1
   try clear p2
   try clear c3
   try clear c5
   try clear c11
   try clear c11b0
   try clear c11b1
   try clear c12
   try clear c13
   try clear c13b0
   try clear c13b1
   try clear hcz10_0
   try clear hcz10_1
   try clear hcz10_2
   try clear hcz10_3
   try clear hcz10_4
   try clear hcz12_0
   try clear hcz12_1
   try clear hcz12_2
   try clear hcz12_3
   try clear hcz12_4
   try clear hcz14_0
   try clear hcz14_1
   try clear hcz14_2
   try clear hcz14_3
   try clear hcz14_4
   try clear hcz15_0
   try clear hcz15_1
   try clear hcz15_2
   try clear hcz15_3
   try clear hcz15_4
   try clear hcz6_0
   try clear hcz6_1
   try clear hcz6_2
   try clear hcz6_3
   try clear hcz6_4
   try clear hfz10_0
   try clear hfz10_1
   try clear hfz10_2
   try clear hfz10_3
   try clear hfz10_4
   try clear hfz12_0
   try clear hfz12_1
   try clear hfz12_2
   try clear hfz12_3
   try clear hfz12_4
   try clear hfz14_0
   try clear hfz14_1
   try clear hfz14_2
   try clear hfz14_3
   try clear hfz14_4
   try clear hfz15_0
   try clear hfz15_1
   try clear hfz15_2
   try clear hfz15_3
   try clear hfz15_4
   try clear hfz6_0
   try clear hfz6_1
   try clear hfz6_2
   try clear hfz6_3
   try clear hfz6_4
   obtain ⟨kq, x12_7, rfl, HA, HJ7, BK142, HB⟩ := hcut
   cases kq with
   | zero => exact absurd HA.out (by simp [laws_drawMade.j0])
   | succ kj7 =>
    have H := HA.out
    clear HA
    simp only [laws_drawMade.j0] at H
    by_cases c16 : x12_7 = true
    ·subst c16
     have H1 : ((impl_MakePair.f kj7 (wrap64 (a0_0 - 40)) a0_1 a0_2).bind fun t145 => (some t145)) = some r := by rw [if_pos rfl] at H; exact H
     clear H
     have H := H1
     clear H1
     replace H := Option.bind_eq_some_iff.mp H
     obtain ⟨t145, A170, H⟩ := H
     replace H : (some t145) = some r := H
     have A17 := Aside0.mk A170
     clear A170
     obtain rfl := Option.some.inj H
     have hcz18_0 : wc.cell? ⟨gb142, 0, none⟩ = some (.int .i64 a0_0) := (blk_cell BK142.out 0).trans rfl
     have hcz18_1 : wc.cell? ⟨gb142, 1, none⟩ = some (.int .i64 a0_1) := (blk_cell BK142.out 1).trans rfl
     have hcz18_2 : wc.cell? ⟨gb142, 2, none⟩ = some (.int .i64 a0_2) := (blk_cell BK142.out 2).trans rfl
     have hcz18_3 : wc.cell? ⟨gb142, 3, none⟩ = some (.string a0_3) := (blk_cell BK142.out 3).trans rfl
     have hcz18_4 : wc.cell? ⟨gb142, 4, none⟩ = some (.slice A0_4 l0_4.length c0_4) := (blk_cell BK142.out 4).trans rfl
     have hfz18_0 := blk_frozen BK142.out 0
     have hfz18_1 := blk_frozen BK142.out 1
     have hfz18_2 := blk_frozen BK142.out 2
     have hfz18_3 := blk_frozen BK142.out 3
     have hfz18_4 := blk_frozen BK142.out 4
     go_wp2_with (first | ((with_reducible refine gate_callee (f := 58) rfl ?_); refine goesL_ (some 33) rfl rfl Tryz.func58 (by kernel_rfl) rfl #[.int .i64 (wrap64 (a0_0 - 40)), .int .i64 a0_1, .int .i64 a0_2] rfl (by (try simp only [List.map_toArray, List.map_cons, List.map_nil]); first | done | rfl | (simp only [List.length_drop, List.length_take]; rfl)) ?_; (with_reducible refine (impl_MakePair.calls kj7 (wrap64 (a0_0 - 40)) a0_1 a0_2 t145 _ ?side1 A17.out).mono ?_); (case side1 => exact XTab.below HT.out (by repeat (first | (with_reducible first | exact HB.out | apply below_alloc | apply pw_below_drewN | apply below_drew1 | refine below_set ?_ GE142.out) | exact HB.out))); rintro e w19 ⟨rfl, hb⟩; refine ⟨_, rfl, ?_⟩; have n0_ := Aside0.mk (blk_below (g := gb142) (o := .cells #[.int .i64 a0_0, .int .i64 a0_1, .int .i64 a0_2, .string a0_3, .slice A0_4 l0_4.length c0_4] 38 (0, 0)) (by (with_reducible repeat (first | refine blk_drewN ?_ _ | refine blk_drew ?_ | refine blk_alloc ?_ _)); exact BK142.out) hb); have n1_ := Aside0.mk (below_step (by repeat (first | (with_reducible first | exact HB.out | apply below_alloc | apply pw_below_drewN | apply below_drew1 | refine below_set ?_ GE142.out) | exact HB.out)) hb); clear BK142; clear HB; have BK142 := n0_; have HB := n1_; clear n0_ n1_; (try clear hb); (try clear hb2); (try clear hk); (try clear hi)))
     go_ret
     exact ⟨by first | rfl | (simp [errW_none, errW_some] <;> rfl) | (simp [*, errW_none, errW_some] <;> rfl), by repeat (first | (with_reducible first | exact HB.out | apply below_alloc | apply pw_below_drewN | apply below_drew1 | refine below_set ?_ GE142.out) | exact HB.out)⟩
    ·replace c16 := Bool.eq_false_iff.mpr c16
     subst c16
     have H1 : (if a0_0 = 50 then (some (⟨#[27, 55]⟩ : ByteArray)) else (if a0_0 = 51 then (some (⟨#[27, 56]⟩ : ByteArray)) else (if a0_0 = 52 then ((impl_MakeList.f kj7 4 l0_4).bind fun t146 => (some t146)) else (if a0_0 = 61 then (some (strOfNums (([(a0_1) % 256] : List Int)))) else (some a0_3))))) = some r := by rw [if_neg (show ¬ (false = true) by decide)] at H; exact H
     clear H
     have H := H1
     clear H1
     by_cases c20 : a0_0 = 50
     ·rw [if_pos c20] at H
      have c20b0 : (a0_0 == 50) = true := beq_iff_eq.mpr c20
      have c20b1 : (a0_0 != 50) = false := bne_eq_false_iff_eq.mpr c20
      clear c20
      obtain rfl := Option.some.inj H
      have hcz21_0 : wc.cell? ⟨gb142, 0, none⟩ = some (.int .i64 a0_0) := (blk_cell BK142.out 0).trans rfl
      have hcz21_1 : wc.cell? ⟨gb142, 1, none⟩ = some (.int .i64 a0_1) := (blk_cell BK142.out 1).trans rfl
      have hcz21_2 : wc.cell? ⟨gb142, 2, none⟩ = some (.int .i64 a0_2) := (blk_cell BK142.out 2).trans rfl
      have hcz21_3 : wc.cell? ⟨gb142, 3, none⟩ = some (.string a0_3) := (blk_cell BK142.out 3).trans rfl
      have hcz21_4 : wc.cell? ⟨gb142, 4, none⟩ = some (.slice A0_4 l0_4.length c0_4) := (blk_cell BK142.out 4).trans rfl
      have hfz21_0 := blk_frozen BK142.out 0
      have hfz21_1 := blk_frozen BK142.out 1
      have hfz21_2 := blk_frozen BK142.out 2
      have hfz21_3 := blk_frozen BK142.out 3
      have hfz21_4 := blk_frozen BK142.out 4
      go_wp2
      go_ret
      exact ⟨by first | rfl | (simp [errW_none, errW_some] <;> rfl) | (simp [*, errW_none, errW_some] <;> rfl), by repeat (first | (with_reducible first | exact HB.out | apply below_alloc | apply pw_below_drewN | apply below_drew1 | refine below_set ?_ GE142.out) | exact HB.out)⟩
     ·rw [if_neg c20] at H
      have c20b0 : (a0_0 == 50) = false := beq_eq_false_iff_ne.mpr c20
      have c20b1 : (a0_0 != 50) = true := bne_iff_ne.mpr c20
      by_cases c22 : a0_0 = 51
      ·rw [if_pos c22] at H
       have c22b0 : (a0_0 == 51) = true := beq_iff_eq.mpr c22
       have c22b1 : (a0_0 != 51) = false := bne_eq_false_iff_eq.mpr c22
       clear c22
       obtain rfl := Option.some.inj H
       have hcz23_0 : wc.cell? ⟨gb142, 0, none⟩ = some (.int .i64 a0_0) := (blk_cell BK142.out 0).trans rfl
       have hcz23_1 : wc.cell? ⟨gb142, 1, none⟩ = some (.int .i64 a0_1) := (blk_cell BK142.out 1).trans rfl
       have hcz23_2 : wc.cell? ⟨gb142, 2, none⟩ = some (.int .i64 a0_2) := (blk_cell BK142.out 2).trans rfl
       have hcz23_3 : wc.cell? ⟨gb142, 3, none⟩ = some (.string a0_3) := (blk_cell BK142.out 3).trans rfl
       have hcz23_4 : wc.cell? ⟨gb142, 4, none⟩ = some (.slice A0_4 l0_4.length c0_4) := (blk_cell BK142.out 4).trans rfl
       have hfz23_0 := blk_frozen BK142.out 0
       have hfz23_1 := blk_frozen BK142.out 1
       have hfz23_2 := blk_frozen BK142.out 2
       have hfz23_3 := blk_frozen BK142.out 3
       have hfz23_4 := blk_frozen BK142.out 4
       go_wp2
       go_ret
       exact ⟨by first | rfl | (simp [errW_none, errW_some] <;> rfl) | (simp [*, errW_none, errW_some] <;> rfl), by repeat (first | (with_reducible first | exact HB.out | apply below_alloc | apply pw_below_drewN | apply below_drew1 | refine below_set ?_ GE142.out) | exact HB.out)⟩
      ·rw [if_neg c22] at H
       have c22b0 : (a0_0 == 51) = false := beq_eq_false_iff_ne.mpr c22
       have c22b1 : (a0_0 != 51) = true := bne_iff_ne.mpr c22
       by_cases c24 : a0_0 = 52
       ·rw [if_pos c24] at H
        have c24b0 : (a0_0 == 52) = true := beq_iff_eq.mpr c24
        have c24b1 : (a0_0 != 52) = false := bne_eq_false_iff_eq.mpr c24
        clear c24
        replace H := Option.bind_eq_some_iff.mp H
        obtain ⟨t146, A250, H⟩ := H
        replace H : (some t146) = some r := H
        have A25 := Aside0.mk A250
        clear A250
        obtain rfl := Option.some.inj H
        have hcz26_0 : wc.cell? ⟨gb142, 0, none⟩ = some (.int .i64 a0_0) := (blk_cell BK142.out 0).trans rfl
        have hcz26_1 : wc.cell? ⟨gb142, 1, none⟩ = some (.int .i64 a0_1) := (blk_cell BK142.out 1).trans rfl
        have hcz26_2 : wc.cell? ⟨gb142, 2, none⟩ = some (.int .i64 a0_2) := (blk_cell BK142.out 2).trans rfl
        have hcz26_3 : wc.cell? ⟨gb142, 3, none⟩ = some (.string a0_3) := (blk_cell BK142.out 3).trans rfl
        have hcz26_4 : wc.cell? ⟨gb142, 4, none⟩ = some (.slice A0_4 l0_4.length c0_4) := (blk_cell BK142.out 4).trans rfl
        have hfz26_0 := blk_frozen BK142.out 0
        have hfz26_1 := blk_frozen BK142.out 1
        have hfz26_2 := blk_frozen BK142.out 2
        have hfz26_3 := blk_frozen BK142.out 3
        have hfz26_4 := blk_frozen BK142.out 4
        go_wp2_with (first | ((with_reducible refine gate_callee (f := 8) rfl ?_); refine goesL_ (some 48) rfl rfl Tryz.func8 (by kernel_rfl) rfl #[.int .i64 4, .slice A0_4 l0_4.length c0_4] rfl (by (try simp only [List.map_toArray, List.map_cons, List.map_nil]); first | done | rfl | (simp only [List.length_drop, List.length_take]; rfl)) ?_; (with_reducible refine (impl_MakeList.calls kj7 4 _ _ l0_4 t146 _ ?side3 ?side1 ?side2 A25.out).mono ?_); (case side1 => repeat (first | exact (Kd.C_below HR0_4.out HB.out) | (with_reducible refine Kd.C_alloc ?_ _) | (with_reducible refine Kd.C_drewN ?_ _) | (with_reducible refine Kd.C_drew ?_))); (case side2 => exact HC0_4.out); (case side3 => exact XTab.below HT.out (by repeat (first | (with_reducible first | exact HB.out | apply below_alloc | apply pw_below_drewN | apply below_drew1 | refine below_set ?_ GE142.out) | exact HB.out))); rintro e w27 ⟨rfl, hb⟩; refine ⟨_, rfl, ?_⟩; have n0_ := Aside0.mk (blk_below (g := gb142) (o := .cells #[.int .i64 a0_0, .int .i64 a0_1, .int .i64 a0_2, .string a0_3, .slice A0_4 l0_4.length c0_4] 38 (0, 0)) (by (with_reducible repeat (first | refine blk_drewN ?_ _ | refine blk_drew ?_ | refine blk_alloc ?_ _)); exact BK142.out) hb); have n1_ := Aside0.mk (below_step (by repeat (first | (with_reducible first | exact HB.out | apply below_alloc | apply pw_below_drewN | apply below_drew1 | refine below_set ?_ GE142.out) | exact HB.out)) hb); clear BK142; clear HB; have BK142 := n0_; have HB := n1_; clear n0_ n1_; (try clear hb); (try clear hb2); (try clear hk); (try clear hi)))
        go_ret
        exact ⟨by first | rfl | (simp [errW_none, errW_some] <;> rfl) | (simp [*, errW_none, errW_some] <;> rfl), by repeat (first | (with_reducible first | exact HB.out | apply below_alloc | apply pw_below_drewN | apply below_drew1 | refine below_set ?_ GE142.out) | exact HB.out)⟩
       ·rw [if_neg c24] at H
        have c24b0 : (a0_0 == 52) = false := beq_eq_false_iff_ne.mpr c24
        have c24b1 : (a0_0 != 52) = true := bne_iff_ne.mpr c24
        by_cases c28 : a0_0 = 61
        ·rw [if_pos c28] at H
         have c28b0 : (a0_0 == 61) = true := beq_iff_eq.mpr c28
         have c28b1 : (a0_0 != 61) = false := bne_eq_false_iff_eq.mpr c28
         clear c28
         obtain ⟨y147, hy147⟩ : ∃ y_ : List Int, y_ = (([(a0_1) % 256] : List Int)) := ⟨_, rfl⟩
         replace H : (some (strOfNums y147)) = some r := by first | (rw [hy147]; with_reducible exact H) | (have H2_ := (Option.bind_some _ _).symm.trans H; rw [hy147]; with_reducible exact H2_) | (have H2_ := (Option.bind_some _ _).symm.trans H; with_reducible exact H2_) | with_reducible exact H | (rw [hy147]; exact H) | exact H
         have Ny147 := Aside0.mk hy147
         clear hy147
         obtain rfl := Option.some.inj H
         have hcz29_0 : wc.cell? ⟨gb142, 0, none⟩ = some (.int .i64 a0_0) := (blk_cell BK142.out 0).trans rfl
         have hcz29_1 : wc.cell? ⟨gb142, 1, none⟩ = some (.int .i64 a0_1) := (blk_cell BK142.out 1).trans rfl
         have hcz29_2 : wc.cell? ⟨gb142, 2, none⟩ = some (.int .i64 a0_2) := (blk_cell BK142.out 2).trans rfl
         have hcz29_3 : wc.cell? ⟨gb142, 3, none⟩ = some (.string a0_3) := (blk_cell BK142.out 3).trans rfl
         have hcz29_4 : wc.cell? ⟨gb142, 4, none⟩ = some (.slice A0_4 l0_4.length c0_4) := (blk_cell BK142.out 4).trans rfl
         have hfz29_0 := blk_frozen BK142.out 0
         have hfz29_1 := blk_frozen BK142.out 1
         have hfz29_2 := blk_frozen BK142.out 2
         have hfz29_3 := blk_frozen BK142.out 3
         have hfz29_4 := blk_frozen BK142.out 4
         go_wp2_with (first | ((with_reducible refine gate_dst (N := 56) rfl ?_); refine Kd.R_lit (Kd.int .u8) _ 5 ?hg (N := 56) ?hd (xs := ([(a0_1) % 256] : List Int)) (inner := [.int .u8 ((a0_1) % 256)]) (ok := fun _ => True) (okp := fun _ => True) ?hr ?hp (fun _ hk => hk) trivial (Below.refl _ _) (Nat.le_refl _) (by simp) ?_; (case hd => rfl); (case hg => rfl); (case hr => first | (go_simp; done) | (go_simp; rfl)); (case hp => exact (Reps.one (show Kd.M (Kd.int .u8) _ _ _ ((a0_1) % 256) [.int .u8 ((a0_1) % 256)] from rfl) (Reps.none _ _))); intro v148 w30 ho31 hb hg_ hnew_; clear hg_ hnew_; (first | rw [← Ny147.out] at ho31 | (simp only [Int.reduceToNat] at ho31; rw [← Ny147.out] at ho31)); have n0_ := Aside0.mk (Kd.R_lower ho31 (below_size (by repeat (first | (with_reducible first | exact HB.out | apply below_alloc | apply pw_below_drewN | apply below_drew1 | refine below_set ?_ GE142.out) | exact HB.out)))); have n1_ := Aside0.mk (blk_below (g := gb142) (o := .cells #[.int .i64 a0_0, .int .i64 a0_1, .int .i64 a0_2, .string a0_3, .slice A0_4 l0_4.length c0_4] 38 (0, 0)) (by (with_reducible repeat (first | refine blk_drewN ?_ _ | refine blk_drew ?_ | refine blk_alloc ?_ _)); exact BK142.out) hb); have n2_ := Aside0.mk (below_step (by repeat (first | (with_reducible first | exact HB.out | apply below_alloc | apply pw_below_drewN | apply below_drew1 | refine below_set ?_ GE142.out) | exact HB.out)) hb); clear BK142; clear HB; have HO149 := n0_; have BK142 := n1_; have HB := n2_; clear n0_ n1_ n2_; clear hb ho31; have hcv32 := own_string (P := Tryz.prog) Tryz.underlying23 Tryz.underlying5 Tryz.underlying9 (Kd.own_of_R HO149.out)))
         go_ret
         exact ⟨by first | rfl | (simp [errW_none, errW_some] <;> rfl) | (simp [*, errW_none, errW_some] <;> rfl), by repeat (first | (with_reducible first | exact HB.out | apply below_alloc | apply pw_below_drewN | apply below_drew1 | refine below_set ?_ GE142.out) | exact HB.out)⟩
        ·rw [if_neg c28] at H
         have c28b0 : (a0_0 == 61) = false := beq_eq_false_iff_ne.mpr c28
         have c28b1 : (a0_0 != 61) = true := bne_iff_ne.mpr c28
         obtain rfl := Option.some.inj H
         have hcz33_0 : wc.cell? ⟨gb142, 0, none⟩ = some (.int .i64 a0_0) := (blk_cell BK142.out 0).trans rfl
         have hcz33_1 : wc.cell? ⟨gb142, 1, none⟩ = some (.int .i64 a0_1) := (blk_cell BK142.out 1).trans rfl
         have hcz33_2 : wc.cell? ⟨gb142, 2, none⟩ = some (.int .i64 a0_2) := (blk_cell BK142.out 2).trans rfl
         have hcz33_3 : wc.cell? ⟨gb142, 3, none⟩ = some (.string a0_3) := (blk_cell BK142.out 3).trans rfl
         have hcz33_4 : wc.cell? ⟨gb142, 4, none⟩ = some (.slice A0_4 l0_4.length c0_4) := (blk_cell BK142.out 4).trans rfl
         have hfz33_0 := blk_frozen BK142.out 0
         have hfz33_1 := blk_frozen BK142.out 1
         have hfz33_2 := blk_frozen BK142.out 2
         have hfz33_3 := blk_frozen BK142.out 3
         have hfz33_4 := blk_frozen BK142.out 4
         go_wp2
         go_ret
         exact ⟨by first | rfl | (simp [errW_none, errW_some] <;> rfl) | (simp [*, errW_none, errW_some] <;> rfl), by repeat (first | (with_reducible first | exact HB.out | apply below_alloc | apply pw_below_drewN | apply below_drew1 | refine below_set ?_ GE142.out) | exact HB.out)⟩
set_option maxHeartbeats 8000000 in
set_option maxRecDepth 100000 in
theorem laws_drawText.calls (k : Nat) (A0 : Option Addr) (c0 : Nat) (l0 : List (S38)) (r : List Int) (w : World) (hT : XTab w) (hr0 : Kd.C k38 w A0 l0.length l0) (hc0 : l0.length ≤ c0) (h : laws_drawText.f k l0 = some r) :
  Calls Tryz.prog 15 #[.slice A0 l0.length c0] w fun e w' => ∃ v0_ : Value, e = .returned (v0_) ∧ Kd.V (Kd.int .u8) 5 w' w.heap.size (fun k_ => (w.heap.size ≤ k_)) v0_ r ∧ Below w.heap.size w w' := by
 have hu38 := Tryz.underlying38
 have HT := Aside0.mk hT
 clear hT
 have HR0 := Aside0.mk hr0
 have HC0 := Aside0.mk hc0
 clear hr0 hc0
 have HB := Aside0.mk (Below.refl w.heap.size w)
 have H : (laws_drawText.l0 k (⟨#[]⟩ : ByteArray) l0 (l0.length : Int) 0) = some r := h
 clear h
 have H' := Aside0.mk H
 clear H
 go_enter Tryz.func15, Tryz.ntmps15
 go_wp2
 go_loopg [3, 8] k (fun kq v3 v8 w' => ∃ (x3_1 : ByteArray) (x8_1 : Int), v3 = .string x3_1 ∧ v8 = .int .i64 x8_1 ∧ Aside0 (laws_drawText.l0 kq x3_1 l0 (l0.length : Int) x8_1 = some r) ∧ Aside0 (kq ≤ k) ∧ Aside0 (Below w.heap.size w w'))
 case atStart => exact ⟨((⟨#[]⟩ : ByteArray)), (0), (by first | rfl | (simp; done) | (simp [*]; done)), (by first | rfl | (simp; done) | (simp [*]; done)), H', ⟨Nat.le_refl _⟩, ⟨by repeat (first | (with_reducible first | exact HB.out | apply below_alloc | apply pw_below_drewN | apply below_drew1) | exact HB.out)⟩⟩
 case round =>
  clear H'
  try clear c1
  obtain ⟨x3_1, x8_1, rfl, rfl, HA, HK1, HB⟩ := hrel
  cases gk with
  | zero => exact absurd HA.out (by simp [laws_drawText.l0])
  | succ k1 =>
   have H := HA.out
   clear HA
   simp only [laws_drawText.l0] at H
   by_cases c2 : x8_1 < (l0.length : Int)
   ·rw [if_pos c2] at H
    have c2b0 : decide (x8_1 < (l0.length : Int)) = true := decide_eq_true c2
    clear c2
    by_cases c3 : 0 ≤ x8_1
    ·rw [if_pos c3] at H
     have c3b0 : decide (0 ≤ x8_1) = true := decide_eq_true c3
     clear c3
     by_cases c4 : x8_1 < (l0.length : Int)
     ·rw [if_pos c4] at H
      have c4b0 : decide (x8_1 < (l0.length : Int)) = true := decide_eq_true c4
      clear c4
      replace H := Option.bind_eq_some_iff.mp H
      obtain ⟨t323, A50, H⟩ := H
      replace H : (if x3_1.size + t323.size ≤ 9223372036854775807 then (laws_drawText.l0 k1 (x3_1 ++ t323) l0 (l0.length : Int) (wrap64 (x8_1 + 1))) else (none)) = some r := H
      have A5 := Aside0.mk A50
      clear A50
      by_cases c6 : x3_1.size + t323.size ≤ 9223372036854775807
      ·rw [if_pos c6] at H
       have c6b0 := eq_true c6
       have c6b1 : decide (x3_1.size + t323.size ≤ 9223372036854775807) = true := decide_eq_true c6
       try have c6b2 : (9223372036854775807 < x3_1.size + t323.size) = False := eq_false (Nat.not_lt.2 c6)
       have H' := Aside0.mk H
       clear H
       have p321 : 0 ≤ (x8_1 : Int) := of_decide_eq_true (by first | (with_reducible assumption) | assumption)
       have q321 : x8_1 < (l0.length : Int) := of_decide_eq_true (by first | (with_reducible assumption) | assumption)
       obtain ⟨ad321, A321_4, c321_4, e321, hx321_0, hx321_1, hx321_2, hx321_3, hx321_4, hl321_4, hi321_4⟩ := at_T38 HR0.out x8_1 p321 q321
       cases e321
       replace hx321_0 := (HB.out.cell (World.block_lt_of_cell? w _ hx321_0)).trans hx321_0
       replace hx321_1 := (HB.out.cell (World.block_lt_of_cell? w _ hx321_1)).trans hx321_1
       replace hx321_2 := (HB.out.cell (World.block_lt_of_cell? w _ hx321_2)).trans hx321_2
       replace hx321_3 := (HB.out.cell (World.block_lt_of_cell? w _ hx321_3)).trans hx321_3
       replace hx321_4 := (HB.out.cell (World.block_lt_of_cell? w _ hx321_4)).trans hx321_4
       have HR321_4 := Aside0.mk hi321_4
       have HC321_4 := Aside0.mk hl321_4
       clear hi321_4 hl321_4
       replace p321 := eq_true p321
       replace q321 := eq_true q321
       go_wp2_with (first | ((with_reducible refine gate_dst (N := 5) rfl ?_); refine box_event ?hg (N := 5) ?hd (cs := #[.int .i64 0, .int .i64 0, .int .i64 0, .string (⟨#[]⟩ : ByteArray), .slice none 0 0]) (t := 38) ?hr ?_; (case hd => rfl); (case hg => rfl); (case hr => first | (go_simp; done) | (go_simp; rfl)); intro gb322 hg w7 hbox hb; have n0_ := Aside0.mk (below_step (by repeat (first | (with_reducible first | exact HB.out | apply below_alloc | apply pw_below_drewN | apply below_drew1) | exact HB.out)) hb); have n1_ := Aside0.mk (hbox); have n2_ := Aside0.mk ((by rw [hg]; exact (below_size (by repeat (first | (with_reducible first | exact HB.out | apply below_alloc | apply pw_below_drewN | apply below_drew1) | exact HB.out))) : w.heap.size ≤ gb322)); have n3_ := Aside0.mk ((by rw [hg]; exact (below_size (by repeat (first | (with_reducible first | exact HB.out | apply below_alloc | apply pw_below_drewN | apply below_drew1) | exact HB.out))) : w.heap.size ≤ gb322)); clear HB; have HB := n0_; have BK322 := n1_; have GW322 := n2_; have GE322 := n3_; clear n0_ n1_ n2_ n3_; clear hb hbox hg; have hcz8_0 : w7.cell? ⟨gb322, 0, none⟩ = some (.int .i64 0) := (blk_cell BK322.out 0).trans rfl; have hcz8_1 : w7.cell? ⟨gb322, 1, none⟩ = some (.int .i64 0) := (blk_cell BK322.out 1).trans rfl; have hcz8_2 : w7.cell? ⟨gb322, 2, none⟩ = some (.int .i64 0) := (blk_cell BK322.out 2).trans rfl; have hcz8_3 : w7.cell? ⟨gb322, 3, none⟩ = some (.string (⟨#[]⟩ : ByteArray)) := (blk_cell BK322.out 3).trans rfl; have hcz8_4 : w7.cell? ⟨gb322, 4, none⟩ = some (.slice none 0 0) := (blk_cell BK322.out 4).trans rfl; have hfz8_0 := blk_frozen BK322.out 0; have hfz8_1 := blk_frozen BK322.out 1; have hfz8_2 := blk_frozen BK322.out 2; have hfz8_3 := blk_frozen BK322.out 3; have hfz8_4 := blk_frozen BK322.out 4) | ((with_reducible refine gate_callee (f := 12) rfl ?_); refine goesL_ (some 14) rfl rfl Tryz.func12 (by kernel_rfl) rfl #[.agg #[.int .i64 ((rd_T38 l0 x8_1).f0), .int .i64 ((rd_T38 l0 x8_1).f1), .int .i64 ((rd_T38 l0 x8_1).f2), .string ((rd_T38 l0 x8_1).f3), .slice A321_4 ((rd_T38 l0 x8_1).f4).length c321_4]] rfl (by (try simp only [List.map_toArray, List.map_cons, List.map_nil]); first | done | rfl | (simp only [List.length_drop, List.length_take]; rfl)) ?_; (with_reducible refine (laws_drawMade.calls k1 ((rd_T38 l0 x8_1).f0) ((rd_T38 l0 x8_1).f1) ((rd_T38 l0 x8_1).f2) ((rd_T38 l0 x8_1).f3) _ _ ((rd_T38 l0 x8_1).f4) t323 _ ?side3 ?side1 ?side2 A5.out).mono ?_); (case side1 => exact Kd.C_below HR321_4.out (by repeat (first | (with_reducible first | exact HB.out | apply below_alloc | apply pw_below_drewN | apply below_drew1 | refine below_set ?_ GE322.out) | exact HB.out))); (case side2 => exact HC321_4.out); (case side3 => exact XTab.below HT.out (by repeat (first | (with_reducible first | exact HB.out | apply below_alloc | apply pw_below_drewN | apply below_drew1 | refine below_set ?_ GE322.out) | exact HB.out))); rintro e w9 ⟨rfl, hb⟩; refine ⟨_, rfl, ?_⟩; have n0_ := Aside0.mk (blk_below (g := gb322) (o := .cells #[.int .i64 ((rd_T38 l0 x8_1).f0), .int .i64 ((rd_T38 l0 x8_1).f1), .int .i64 ((rd_T38 l0 x8_1).f2), .string ((rd_T38 l0 x8_1).f3), .slice A321_4 ((rd_T38 l0 x8_1).f4).length c321_4] 38 (0, 0)) (by (with_reducible repeat (first | refine blk_drewN ?_ _ | refine blk_drew ?_ | refine blk_alloc ?_ _)); refine blk_put (cs := #[.int .i64 ((rd_T38 l0 x8_1).f0), .int .i64 ((rd_T38 l0 x8_1).f1), .int .i64 ((rd_T38 l0 x8_1).f2), .string ((rd_T38 l0 x8_1).f3), .slice none 0 0]) ?_ 4 _ rfl; (with_reducible repeat (first | refine blk_drewN ?_ _ | refine blk_drew ?_ | refine blk_alloc ?_ _)); refine blk_put (cs := #[.int .i64 ((rd_T38 l0 x8_1).f0), .int .i64 ((rd_T38 l0 x8_1).f1), .int .i64 ((rd_T38 l0 x8_1).f2), .string (⟨#[]⟩ : ByteArray), .slice none 0 0]) ?_ 3 _ rfl; (with_reducible repeat (first | refine blk_drewN ?_ _ | refine blk_drew ?_ | refine blk_alloc ?_ _)); refine blk_put (cs := #[.int .i64 ((rd_T38 l0 x8_1).f0), .int .i64 ((rd_T38 l0 x8_1).f1), .int .i64 0, .string (⟨#[]⟩ : ByteArray), .slice none 0 0]) ?_ 2 _ rfl; (with_reducible repeat (first | refine blk_drewN ?_ _ | refine blk_drew ?_ | refine blk_alloc ?_ _)); refine blk_put (cs := #[.int .i64 ((rd_T38 l0 x8_1).f0), .int .i64 0, .int .i64 0, .string (⟨#[]⟩ : ByteArray), .slice none 0 0]) ?_ 1 _ rfl; (with_reducible repeat (first | refine blk_drewN ?_ _ | refine blk_drew ?_ | refine blk_alloc ?_ _)); refine blk_put (cs := #[.int .i64 0, .int .i64 0, .int .i64 0, .string (⟨#[]⟩ : ByteArray), .slice none 0 0]) ?_ 0 _ rfl; (with_reducible repeat (first | refine blk_drewN ?_ _ | refine blk_drew ?_ | refine blk_alloc ?_ _)); exact BK322.out) hb); have n1_ := Aside0.mk (below_step (by repeat (first | (with_reducible first | exact HB.out | apply below_alloc | apply pw_below_drewN | apply below_drew1 | refine below_set ?_ GE322.out) | exact HB.out)) hb); clear BK322; clear HB; have BK322 := n0_; have HB := n1_; clear n0_ n1_; (try clear hb); (try clear hb2); (try clear hk); (try clear hi)))
       go_roundg k1
       case measure => have := HK1.out; omega
       case rel => exact ⟨(x3_1 ++ t323), (wrap64 (x8_1 + 1)), (by first | rfl | (simp; done) | (simp [*]; done)), (by first | rfl | (simp; done) | (simp [*]; done)), H', ⟨by have := HK1.out; omega⟩, ⟨by repeat (first | (with_reducible first | exact HB.out | apply below_alloc | apply pw_below_drewN | apply below_drew1 | refine below_set ?_ GE322.out) | exact HB.out)⟩⟩
      ·rw [if_neg c6] at H
       exact absurd H (by simp)
     ·rw [if_neg c4] at H
      exact absurd H (by simp)
    ·rw [if_neg c3] at H
     exact absurd H (by simp)
   ·rw [if_neg c2] at H
    have c2b0 : decide (x8_1 < (l0.length : Int)) = false := decide_eq_false c2
    clear c2
    replace H := Option.bind_eq_some_iff.mp H
    obtain ⟨t324, A100, H⟩ := H
    replace H : (some t324) = some r := H
    have A10 := Aside0.mk A100
    clear A100
    obtain rfl := Option.some.inj H
    go_wp2_with (first | ((with_reducible refine gate_dst (N := 18) rfl ?_); refine conv_ev 9 23 5 rfl rfl Tryz.underlying9 Tryz.underlying23 Tryz.underlying5 x3_1 rfl A10.out ?_; rintro e w11 ⟨v325, rfl, ho0, hb⟩; refine ⟨_, rfl, ?_⟩; have n0_ := Aside0.mk (Kd.V_lower (Kd.V_mono (ok' := fun k_ => (w.heap.size ≤ k_)) ho0 (fun k_ hk_ => (Nat.le_trans (below_size (by repeat (first | (with_reducible first | exact HB.out | apply below_alloc | apply pw_below_drewN | apply below_drew1) | exact HB.out))) hk_))) (below_size (by repeat (first | (with_reducible first | exact HB.out | apply below_alloc | apply pw_below_drewN | apply below_drew1) | exact HB.out)))); have n1_ := Aside0.mk (below_step (by repeat (first | (with_reducible first | exact HB.out | apply below_alloc | apply pw_below_drewN | apply below_drew1) | exact HB.out)) hb); clear HB; have HO326 := n0_; have HB := n1_; clear n0_ n1_; (try clear hb); (try clear hb2); (try clear hk); (try clear hi); (try clear ho0)))
    go_ret
    exact ⟨_, by first | rfl | (simp [errW_none, errW_some] <;> rfl) | (simp [*, errW_none, errW_some] <;> rfl), by (with_reducible repeat (first | apply Kd.V_alloc | apply Kd.V_drewN | apply Kd.V_drew)); exact HO326.out, by repeat (first | (with_reducible first | exact HB.out | apply below_alloc | apply pw_below_drewN | apply below_drew1) | exact HB.out)⟩
end Go.Proofs.YteebhoehflgfoaaGreatDoor.Y
end
