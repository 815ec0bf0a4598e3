/- Texts of this claim, joined: Y60 Y61D Y61 Y62D Y62 Y63D Y63 XMakeList Y24D Y25D. Of each, what the claim uses. -/
import Derived.Test.YtjkpelaeelihhaaGreatDoorRRKad
import Derived.Test.YtjkpelaeelihhaaGreatDoorRRKau
import Derived.Test.YtjkpelaeelihhaaGreatDoorRRKaq
import Derived.Lib.Hide
import Derived.Test.YtjkpelaeelihhaaGreatDoorRRKat
section
namespace Go.Proofs.YtjkpelaeelihhaaGreatDoorRR.Y
open Go.RowKit Go.Proofs.YtjkpelaeelihhaaGreatDoorRRW.PrintWords Go.Proofs.YtjkpelaeelihhaaGreatDoorRRW.PrintLast Go.Proofs.YtjkpelaeelihhaaGreatDoorRRW.PrintMore
attribute [local go_sem] max2_int min2_int max_two min_two max_three min_three max_four min_four   -- for this text's walks alone
set_option linter.unusedVariables false
set_option linter.unusedSimpArgs false
set_option maxHeartbeats 8000000 in
set_option maxRecDepth 100000 in
theorem xansi_NewStyle.calls (k : Nat) (A0 : Option Addr) (c0 : Nat) (l0 : List Int) (r : List ByteArray) (w : World) (hT : XTab w) (hr0 : Kd.C (Kd.int .i64) w A0 l0.length l0) (hc0 : l0.length ≤ c0) (h : xansi_NewStyle.f k l0 = some r) :
    Calls Tryz.prog 104 #[.slice A0 l0.length c0] w fun e w' => ∃ v0_ : Value, e = .returned (v0_) ∧ Kd.R Kd.string 9 w' w.heap.size (fun _ => True) v0_ r ∧ Below w.heap.size w w' := by
  have HT := Aside0.mk hT
  clear hT
  have HR0 := Aside0.mk hr0
  have HC0 := Aside0.mk hc0
  clear hr0 hc0
  have HB := Aside0.mk (Below.refl w.heap.size w)
  have H : (if (l0.length : Int) = 0 then (some (([] : List ByteArray))) else (if 0 ≤ (l0.length : Int) then (if ((l0.length : Int) : Int).toNat ≤ 17592186044416 then (xansi_NewStyle.l0 k (([] : List ByteArray)) l0 (l0.length : Int) 0) else (none)) else (none))) = some r := h
  clear h
  by_cases c2 : (l0.length : Int) = 0
  · rw [if_pos c2] at H
    have c2b0 : ((l0.length : Int) == 0) = true := beq_iff_eq.mpr c2
    have c2b1 : ((l0.length : Int) != 0) = false := bne_eq_false_iff_eq.mpr c2
    clear c2
    obtain ⟨y335, hy335⟩ : ∃ y_ : List ByteArray, y_ = (([] : List ByteArray)) := ⟨_, rfl⟩
    replace H : (some y335) = some r := by first | (rw [hy335]; with_reducible exact H) | (have H2_ := (Option.bind_some _ _).symm.trans H; rw [hy335]; with_reducible exact H2_) | (have H2_ := (Option.bind_some _ _).symm.trans H; with_reducible exact H2_) | with_reducible exact H | (rw [hy335]; exact H) | exact H
    have Ny335 := Aside0.mk hy335
    clear hy335
    obtain rfl := Option.some.inj H
    go_enter Tryz.func104, Tryz.ntmps104
    go_wp2_with (first | ((with_reducible refine gate_dst (N := 11) rfl ?_); refine Kd.R_lit Kd.string _ 9 ?hg (N := 11) ?hd (xs := ([] : List ByteArray)) (inner := []) (ok := fun _ => True) (okp := fun _ => True) ?hr ?hp (fun _ hk => hk) trivial (Below.refl _ _) (Nat.le_refl _) (by simp) ?_; (case hd => rfl); (case hg => rfl); (case hr => first | (go_simp; done) | (go_simp; rfl)); (case hp => exact (Reps.none _ _)); intro v336 w3 ho4 hb hg_ hnew_; clear hg_ hnew_; (first | rw [← Ny335.out] at ho4 | (simp only [Int.reduceToNat] at ho4; rw [← Ny335.out] at ho4)); have n0_ := Aside0.mk (Kd.R_lower ho4 (below_size (by repeat (first | (with_reducible first | exact HB.out | apply below_alloc | apply pw_below_drewN | apply below_drew1) | exact HB.out)))); have n1_ := Aside0.mk (below_step (by repeat (first | (with_reducible first | exact HB.out | apply below_alloc | apply pw_below_drewN | apply below_drew1) | exact HB.out)) hb); clear HB; have HO337 := n0_; have HB := n1_; clear n0_ n1_; clear hb ho4))
    go_ret
    exact ⟨_, by first | rfl | (simp [errW_none, errW_some] <;> rfl) | (simp [*, errW_none, errW_some] <;> rfl), by (with_reducible repeat (first | apply Kd.R_alloc | apply Kd.R_drewN | apply Kd.R_drew)); exact HO337.out, by repeat (first | (with_reducible first | exact HB.out | apply below_alloc | apply pw_below_drewN | apply below_drew1) | exact HB.out)⟩
  · rw [if_neg c2] at H
    have c2b0 : ((l0.length : Int) == 0) = false := beq_eq_false_iff_ne.mpr c2
    have c2b1 : ((l0.length : Int) != 0) = true := bne_iff_ne.mpr c2
    have c2b2 : ¬ (l0 = []) := fun h_ => c2 (by rw [h_]; rfl)
    by_cases c5 : 0 ≤ (l0.length : Int)
    · rw [if_pos c5] at H
      have c5b0 := eq_true c5
      have c5b1 : decide (0 ≤ (l0.length : Int)) = true := decide_eq_true c5
      clear c5
      by_cases c6 : ((l0.length : Int) : Int).toNat ≤ 17592186044416
      · rw [if_pos c6] at H
        have c6b0 := eq_true c6
        have c6b1 : decide (((l0.length : Int) : Int).toNat ≤ 17592186044416) = true := decide_eq_true c6
        clear c6
        obtain ⟨y338, hy338⟩ : ∃ y_ : List ByteArray, y_ = (([] : List ByteArray)) := ⟨_, rfl⟩
        replace H : (xansi_NewStyle.l0 k y338 l0 (l0.length : Int) 0) = some r := by first | (rw [hy338]; with_reducible exact H) | (have H2_ := (Option.bind_some _ _).symm.trans H; rw [hy338]; with_reducible exact H2_) | (have H2_ := (Option.bind_some _ _).symm.trans H; with_reducible exact H2_) | with_reducible exact H | (rw [hy338]; exact H) | exact H
        have Ny338 := Aside0.mk hy338
        clear hy338
        have H' := Aside0.mk H
        clear H
        go_enter Tryz.func104, Tryz.ntmps104
        go_wp2_with (first | ((with_reducible refine gate_dst (N := 14) rfl ?_); refine Kd.R_make0 Kd.string _ 9 rfl (N := 14) rfl 96 _ _ rfl (l0.length : Int) rfl rfl Tryz.underlying96 (.string ⟨#[]⟩) 16 info9 rfl (by decide) (by omega) (ok := fun _ => True) (okp := fun _ => True) (fun _ hk => hk) trivial (of_decide_eq_true (by first | (with_reducible assumption) | assumption)) (Nat.le_trans (Nat.mul_le_mul_right _ (of_decide_eq_true (by first | (with_reducible assumption) | assumption) : (l0.length : Int).toNat ≤ 17592186044416)) (by omega)) (Below.refl _ _) (Nat.le_refl _) ?_; intro v339 w7 ho8 hb hg_ hnew_; clear hg_ hnew_; (first | rw [← Ny338.out] at ho8 | (simp only [Int.reduceToNat] at ho8; rw [← Ny338.out] at ho8)); have n0_ := Aside0.mk (Kd.R_lower ho8 (below_size (by repeat (first | (with_reducible first | exact HB.out | apply below_alloc | apply pw_below_drewN | apply below_drew1) | exact HB.out)))); have n1_ := Aside0.mk (below_step (by repeat (first | (with_reducible first | exact HB.out | apply below_alloc | apply pw_below_drewN | apply below_drew1) | exact HB.out)) hb); clear HB; have HO340 := n0_; have HB := n1_; clear n0_ n1_; clear hb ho8))
        go_loopg [3, 17] k (fun kq v3 v17 w' => ∃ (x3_1 : List ByteArray) (x17_1 : Int), v17 = .int .i64 x17_1 ∧ Aside0 (xansi_NewStyle.l0 kq x3_1 l0 (l0.length : Int) x17_1 = some r) ∧ Aside0 (kq ≤ k) ∧ Aside0 (Kd.R Kd.string 9 w' w.heap.size (fun _ => True) v3 x3_1) ∧ Aside0 (Below w.heap.size w w'))
        case atStart => exact ⟨(y338), (0), (by first | rfl | (simp; done) | (simp [*]; done)), H', ⟨Nat.le_refl _⟩, ⟨by (with_reducible repeat (first | apply Kd.R_alloc | apply Kd.R_drewN | apply Kd.R_drew)); exact HO340.out⟩, ⟨by repeat (first | (with_reducible first | exact HB.out | apply below_alloc | apply pw_below_drewN | apply below_drew1) | exact HB.out)⟩⟩
        case round =>
          clear H'
          try clear c1
          try clear c2
          try clear c2b0
          try clear c2b1
          try clear c2b2
          try clear p2
          try clear c5
          try clear c5b0
          try clear c5b1
          try clear c6
          try clear c6b0
          try clear c6b1
          obtain ⟨x3_1, x17_1, rfl, HA, HK1, HO_3, HB⟩ := hrel
          cases gk with
          | zero => exact absurd HA.out (by simp [xansi_NewStyle.l0])
          | succ k1 =>
            have H := HA.out
            clear HA
            simp only [xansi_NewStyle.l0] at H
            by_cases c9 : x17_1 < (l0.length : Int)
            · rw [if_pos c9] at H
              have c9b0 : decide (x17_1 < (l0.length : Int)) = true := decide_eq_true c9
              clear c9
              by_cases c10 : 0 ≤ x17_1
              · rw [if_pos c10] at H
                have c10b0 : decide (0 ≤ x17_1) = true := decide_eq_true c10
                clear c10
                by_cases c11 : x17_1 < (l0.length : Int)
                · rw [if_pos c11] at H
                  have c11b0 : decide (x17_1 < (l0.length : Int)) = true := decide_eq_true c11
                  clear c11
                  replace H := Option.bind_eq_some_iff.mp H
                  obtain ⟨⟨t342, t343⟩, A120, H⟩ := H
                  replace H : (if t343 = true then (if x3_1.length < 8796093022208 then (xansi_NewStyle.l0 k1 (x3_1 ++ [t342]) l0 (l0.length : Int) (wrap64 (x17_1 + 1))) else (none)) else (if (rd l0 x17_1) < 0 then ((strconv_Itoa.f 0).bind fun t347 => (if x3_1.length < 8796093022208 then (xansi_NewStyle.l0 k1 (x3_1 ++ [t347]) l0 (l0.length : Int) (wrap64 (x17_1 + 1))) else (none))) else ((strconv_Itoa.f (rd l0 x17_1)).bind fun t351 => (if x3_1.length < 8796093022208 then (xansi_NewStyle.l0 k1 (x3_1 ++ [t351]) l0 (l0.length : Int) (wrap64 (x17_1 + 1))) else (none))))) = some r := H
                  have A12 := Aside0.mk A120
                  clear A120
                  by_cases c13 : t343 = true
                  · subst c13
                    have H1 : (if x3_1.length < 8796093022208 then (xansi_NewStyle.l0 k1 (x3_1 ++ [t342]) l0 (l0.length : Int) (wrap64 (x17_1 + 1))) else (none)) = some r := by rw [if_pos rfl] at H; exact H
                    clear H
                    have H := H1
                    clear H1
                    by_cases c14 : x3_1.length < 8796093022208
                    · rw [if_pos c14] at H
                      have LMc14 := Aside0.mk c14
                      clear c14
                      obtain ⟨y344, hy344⟩ : ∃ y_ : List ByteArray, y_ = (x3_1 ++ [t342]) := ⟨_, rfl⟩
                      replace H : (xansi_NewStyle.l0 k1 y344 l0 (l0.length : Int) (wrap64 (x17_1 + 1))) = some r := by first | (rw [hy344]; with_reducible exact H) | (have H2_ := (Option.bind_some _ _).symm.trans H; rw [hy344]; with_reducible exact H2_) | (have H2_ := (Option.bind_some _ _).symm.trans H; with_reducible exact H2_) | with_reducible exact H | (rw [hy344]; exact H) | exact H
                      have Ny344 := Aside0.mk hy344
                      clear hy344
                      have H' := Aside0.mk H
                      clear H
                      have p341 : 0 ≤ (x17_1 : Int) := of_decide_eq_true (by first | (with_reducible assumption) | assumption)
                      have q341 : x17_1 < (l0.length : Int) := of_decide_eq_true (by first | (with_reducible assumption) | assumption)
                      obtain ⟨ad341, e341, hx341_0⟩ := Kd.at_int HR0.out x17_1 p341 q341
                      cases e341
                      replace hx341_0 := (HB.out.cell (World.block_lt_of_cell? w _ hx341_0)).trans hx341_0
                      replace p341 := eq_true p341
                      replace q341 := eq_true q341
                      go_wp2_with (first | ((with_reducible refine gate_callee (f := 114) rfl ?_); refine goesL_ (some 23) rfl rfl Tryz.func114 (by kernel_rfl) rfl #[.int .i64 (rd l0 x17_1)] rfl (by (try simp only [List.map_toArray, List.map_cons, List.map_nil]); first | done | rfl | (simp only [List.length_drop, List.length_take]; rfl)) ?_; (with_reducible refine (xansi_attrStrings.calls (rd l0 x17_1) t342 true _ A12.out).mono ?_); rintro e w' ⟨rfl, ⟨nd, rfl⟩⟩; refine ⟨_, rfl, ?_⟩) | ((with_reducible refine gate_builtin (b := .append) (xs := #[.tmp 27, .tmp 29]) rfl ?_); at_builtin; refine Kd.R_append Kd.string (w0 := w) w.heap.size rfl (.tmp 27) (.tmp 29) 96 9 (.string ⟨#[]⟩) 16 rfl Tryz.underlying96 info9 rfl (by decide) (by omega) u3 x3_1 t342 [.string t342] (fun _ => True) (fun _ => False) rfl rfl ?aP (fun _ hk => hk.elim) ?aF ?aO ?aB ?aS ?aL ?_; (case aP => exact rfl); (case aB => exact (by repeat (first | (with_reducible first | exact HB.out | apply below_alloc | apply pw_below_drewN | apply below_drew1) | exact HB.out))); (case aF => exact (fun _ _ => trivial)); (case aO => exact (by (with_reducible repeat (first | apply Kd.R_alloc | apply Kd.R_drewN | apply Kd.R_drew)); exact HO_3.out)); (case aS => exact (below_size (by repeat (first | (with_reducible first | exact HB.out | apply below_alloc | apply pw_below_drewN | apply below_drew1) | exact HB.out)))); (case aL => have := LMc14.out; omega); intro v345 w15 ho hb hg hat; rw [← Ny344.out] at ho; have n0_ := Aside0.mk (hb); have n1_ := Aside0.mk (ho); clear HB; clear HO_3; have HB := n0_; have HO346 := n1_; clear n0_ n1_; clear ho hb hg hat))
                      go_roundg k1
                      case measure => have := HK1.out; omega
                      case rel => exact ⟨(y344), (wrap64 (x17_1 + 1)), (by first | rfl | (simp; done) | (simp [*]; done)), H', ⟨by have := HK1.out; omega⟩, ⟨by (with_reducible repeat (first | apply Kd.R_alloc | apply Kd.R_drewN | apply Kd.R_drew)); exact HO346.out⟩, ⟨by repeat (first | (with_reducible first | exact HB.out | apply below_alloc | apply pw_below_drewN | apply below_drew1) | exact HB.out)⟩⟩
                    · rw [if_neg c14] at H
                      exact absurd H (by simp)
                  · replace c13 := Bool.eq_false_iff.mpr c13
                    subst c13
                    have H1 : (if (rd l0 x17_1) < 0 then ((strconv_Itoa.f 0).bind fun t347 => (if x3_1.length < 8796093022208 then (xansi_NewStyle.l0 k1 (x3_1 ++ [t347]) l0 (l0.length : Int) (wrap64 (x17_1 + 1))) else (none))) else ((strconv_Itoa.f (rd l0 x17_1)).bind fun t351 => (if x3_1.length < 8796093022208 then (xansi_NewStyle.l0 k1 (x3_1 ++ [t351]) l0 (l0.length : Int) (wrap64 (x17_1 + 1))) else (none)))) = some r := by rw [if_neg (show ¬ (false = true) by decide)] at H; exact H
                    clear H
                    have H := H1
                    clear H1
                    by_cases c16 : (rd l0 x17_1) < 0
                    · rw [if_pos c16] at H
                      have c16b0 : decide ((rd l0 x17_1) < 0) = true := decide_eq_true c16
                      clear c16
                      replace H := Option.bind_eq_some_iff.mp H
                      obtain ⟨t347, A170, H⟩ := H
                      replace H : (if x3_1.length < 8796093022208 then (xansi_NewStyle.l0 k1 (x3_1 ++ [t347]) l0 (l0.length : Int) (wrap64 (x17_1 + 1))) else (none)) = some r := H
                      have A17 := Aside0.mk A170
                      clear A170
                      by_cases c18 : x3_1.length < 8796093022208
                      · rw [if_pos c18] at H
                        have LMc18 := Aside0.mk c18
                        clear c18
                        obtain ⟨y348, hy348⟩ : ∃ y_ : List ByteArray, y_ = (x3_1 ++ [t347]) := ⟨_, rfl⟩
                        replace H : (xansi_NewStyle.l0 k1 y348 l0 (l0.length : Int) (wrap64 (x17_1 + 1))) = some r := by first | (rw [hy348]; with_reducible exact H) | (have H2_ := (Option.bind_some _ _).symm.trans H; rw [hy348]; with_reducible exact H2_) | (have H2_ := (Option.bind_some _ _).symm.trans H; with_reducible exact H2_) | with_reducible exact H | (rw [hy348]; exact H) | exact H
                        have Ny348 := Aside0.mk hy348
                        clear hy348
                        have H' := Aside0.mk H
                        clear H
                        have p341 : 0 ≤ (x17_1 : Int) := of_decide_eq_true (by first | (with_reducible assumption) | assumption)
                        have q341 : x17_1 < (l0.length : Int) := of_decide_eq_true (by first | (with_reducible assumption) | assumption)
                        obtain ⟨ad341, e341, hx341_0⟩ := Kd.at_int HR0.out x17_1 p341 q341
                        cases e341
                        replace hx341_0 := (HB.out.cell (World.block_lt_of_cell? w _ hx341_0)).trans hx341_0
                        replace p341 := eq_true p341
                        replace q341 := eq_true q341
                        go_wp2_with (first | ((with_reducible refine gate_callee (f := 114) rfl ?_); refine goesL_ (some 23) rfl rfl Tryz.func114 (by kernel_rfl) rfl #[.int .i64 (rd l0 x17_1)] rfl (by (try simp only [List.map_toArray, List.map_cons, List.map_nil]); first | done | rfl | (simp only [List.length_drop, List.length_take]; rfl)) ?_; (with_reducible refine (xansi_attrStrings.calls (rd l0 x17_1) t342 false _ A12.out).mono ?_); rintro e w' ⟨rfl, ⟨nd, rfl⟩⟩; refine ⟨_, rfl, ?_⟩) | ((with_reducible refine gate_callee (f := 101) rfl ?_); refine goesL_ (some 35) rfl rfl Tryz.func101 (by kernel_rfl) rfl #[.int .i64 0] rfl (by (try simp only [List.map_toArray, List.map_cons, List.map_nil]); first | done | rfl | (simp only [List.length_drop, List.length_take]; rfl)) ?_; (with_reducible refine (strconv_Itoa.calls 0 t347 _ ?side1 A17.out).mono ?_); (case side1 => exact XTab.below HT.out (by repeat (first | (with_reducible first | exact HB.out | apply below_alloc | apply pw_below_drewN | apply below_drew1) | exact HB.out))); rintro e w19 ⟨rfl, hb⟩; refine ⟨_, rfl, ?_⟩; have n0_ := Aside0.mk (Kd.R_below (by (with_reducible repeat (first | apply Kd.R_alloc | apply Kd.R_drewN | apply Kd.R_drew)); exact HO_3.out) hb); have n1_ := Aside0.mk (below_step (by repeat (first | (with_reducible first | exact HB.out | apply below_alloc | apply pw_below_drewN | apply below_drew1) | exact HB.out)) hb); clear HO_3; clear HB; have HO_3 := n0_; have HB := n1_; clear n0_ n1_; (try clear hb); (try clear hb2); (try clear hk); (try clear hi)) | ((with_reducible refine gate_builtin (b := .append) (xs := #[.tmp 33, .tmp 36]) rfl ?_); at_builtin; refine Kd.R_append Kd.string (w0 := w) w.heap.size rfl (.tmp 33) (.tmp 36) 96 9 (.string ⟨#[]⟩) 16 rfl Tryz.underlying96 info9 rfl (by decide) (by omega) u3 x3_1 t347 [.string t347] (fun _ => True) (fun _ => False) rfl rfl ?aP (fun _ hk => hk.elim) ?aF ?aO ?aB ?aS ?aL ?_; (case aP => exact rfl); (case aB => exact (by repeat (first | (with_reducible first | exact HB.out | apply below_alloc | apply pw_below_drewN | apply below_drew1) | exact HB.out))); (case aF => exact (fun _ _ => trivial)); (case aO => exact (by (with_reducible repeat (first | apply Kd.R_alloc | apply Kd.R_drewN | apply Kd.R_drew)); exact HO_3.out)); (case aS => exact (below_size (by repeat (first | (with_reducible first | exact HB.out | apply below_alloc | apply pw_below_drewN | apply below_drew1) | exact HB.out)))); (case aL => have := LMc18.out; omega); intro v349 w20 ho hb hg hat; rw [← Ny348.out] at ho; have n0_ := Aside0.mk (hb); have n1_ := Aside0.mk (ho); clear HB; clear HO_3; have HB := n0_; have HO350 := n1_; clear n0_ n1_; clear ho hb hg hat))
                        go_roundg k1
                        case measure => have := HK1.out; omega
                        case rel => exact ⟨(y348), (wrap64 (x17_1 + 1)), (by first | rfl | (simp; done) | (simp [*]; done)), H', ⟨by have := HK1.out; omega⟩, ⟨by (with_reducible repeat (first | apply Kd.R_alloc | apply Kd.R_drewN | apply Kd.R_drew)); exact HO350.out⟩, ⟨by repeat (first | (with_reducible first | exact HB.out | apply below_alloc | apply pw_below_drewN | apply below_drew1) | exact HB.out)⟩⟩
                      · rw [if_neg c18] at H
                        exact absurd H (by simp)
                    · rw [if_neg c16] at H
                      have c16b0 : decide ((rd l0 x17_1) < 0) = false := decide_eq_false c16
                      clear c16
                      replace H := Option.bind_eq_some_iff.mp H
                      obtain ⟨t351, A210, H⟩ := H
                      replace H : (if x3_1.length < 8796093022208 then (xansi_NewStyle.l0 k1 (x3_1 ++ [t351]) l0 (l0.length : Int) (wrap64 (x17_1 + 1))) else (none)) = some r := H
                      have A21 := Aside0.mk A210
                      clear A210
                      by_cases c22 : x3_1.length < 8796093022208
                      · rw [if_pos c22] at H
                        have LMc22 := Aside0.mk c22
                        clear c22
                        obtain ⟨y352, hy352⟩ : ∃ y_ : List ByteArray, y_ = (x3_1 ++ [t351]) := ⟨_, rfl⟩
                        replace H : (xansi_NewStyle.l0 k1 y352 l0 (l0.length : Int) (wrap64 (x17_1 + 1))) = some r := by first | (rw [hy352]; with_reducible exact H) | (have H2_ := (Option.bind_some _ _).symm.trans H; rw [hy352]; with_reducible exact H2_) | (have H2_ := (Option.bind_some _ _).symm.trans H; with_reducible exact H2_) | with_reducible exact H | (rw [hy352]; exact H) | exact H
                        have Ny352 := Aside0.mk hy352
                        clear hy352
                        have H' := Aside0.mk H
                        clear H
                        have p341 : 0 ≤ (x17_1 : Int) := of_decide_eq_true (by first | (with_reducible assumption) | assumption)
                        have q341 : x17_1 < (l0.length : Int) := of_decide_eq_true (by first | (with_reducible assumption) | assumption)
                        obtain ⟨ad341, e341, hx341_0⟩ := Kd.at_int HR0.out x17_1 p341 q341
                        cases e341
                        replace hx341_0 := (HB.out.cell (World.block_lt_of_cell? w _ hx341_0)).trans hx341_0
                        replace p341 := eq_true p341
                        replace q341 := eq_true q341
                        go_wp2_with (first | ((with_reducible refine gate_callee (f := 114) rfl ?_); refine goesL_ (some 23) rfl rfl Tryz.func114 (by kernel_rfl) rfl #[.int .i64 (rd l0 x17_1)] rfl (by (try simp only [List.map_toArray, List.map_cons, List.map_nil]); first | done | rfl | (simp only [List.length_drop, List.length_take]; rfl)) ?_; (with_reducible refine (xansi_attrStrings.calls (rd l0 x17_1) t342 false _ A12.out).mono ?_); rintro e w' ⟨rfl, ⟨nd, rfl⟩⟩; refine ⟨_, rfl, ?_⟩) | ((with_reducible refine gate_callee (f := 101) rfl ?_); refine goesL_ (some 35) rfl rfl Tryz.func101 (by kernel_rfl) rfl #[.int .i64 (rd l0 x17_1)] rfl (by (try simp only [List.map_toArray, List.map_cons, List.map_nil]); first | done | rfl | (simp only [List.length_drop, List.length_take]; rfl)) ?_; (with_reducible refine (strconv_Itoa.calls (rd l0 x17_1) t351 _ ?side1 A21.out).mono ?_); (case side1 => exact XTab.below HT.out (by repeat (first | (with_reducible first | exact HB.out | apply below_alloc | apply pw_below_drewN | apply below_drew1) | exact HB.out))); rintro e w23 ⟨rfl, hb⟩; refine ⟨_, rfl, ?_⟩; have n0_ := Aside0.mk (Kd.R_below (by (with_reducible repeat (first | apply Kd.R_alloc | apply Kd.R_drewN | apply Kd.R_drew)); exact HO_3.out) hb); have n1_ := Aside0.mk (below_step (by repeat (first | (with_reducible first | exact HB.out | apply below_alloc | apply pw_below_drewN | apply below_drew1) | exact HB.out)) hb); clear HO_3; clear HB; have HO_3 := n0_; have HB := n1_; clear n0_ n1_; (try clear hb); (try clear hb2); (try clear hk); (try clear hi)) | ((with_reducible refine gate_builtin (b := .append) (xs := #[.tmp 33, .tmp 36]) rfl ?_); at_builtin; refine Kd.R_append Kd.string (w0 := w) w.heap.size rfl (.tmp 33) (.tmp 36) 96 9 (.string ⟨#[]⟩) 16 rfl Tryz.underlying96 info9 rfl (by decide) (by omega) u3 x3_1 t351 [.string t351] (fun _ => True) (fun _ => False) rfl rfl ?aP (fun _ hk => hk.elim) ?aF ?aO ?aB ?aS ?aL ?_; (case aP => exact rfl); (case aB => exact (by repeat (first | (with_reducible first | exact HB.out | apply below_alloc | apply pw_below_drewN | apply below_drew1) | exact HB.out))); (case aF => exact (fun _ _ => trivial)); (case aO => exact (by (with_reducible repeat (first | apply Kd.R_alloc | apply Kd.R_drewN | apply Kd.R_drew)); exact HO_3.out)); (case aS => exact (below_size (by repeat (first | (with_reducible first | exact HB.out | apply below_alloc | apply pw_below_drewN | apply below_drew1) | exact HB.out)))); (case aL => have := LMc22.out; omega); intro v353 w24 ho hb hg hat; rw [← Ny352.out] at ho; have n0_ := Aside0.mk (hb); have n1_ := Aside0.mk (ho); clear HB; clear HO_3; have HB := n0_; have HO354 := n1_; clear n0_ n1_; clear ho hb hg hat))
                        go_roundg k1
                        case measure => have := HK1.out; omega
                        case rel => exact ⟨(y352), (wrap64 (x17_1 + 1)), (by first | rfl | (simp; done) | (simp [*]; done)), H', ⟨by have := HK1.out; omega⟩, ⟨by (with_reducible repeat (first | apply Kd.R_alloc | apply Kd.R_drewN | apply Kd.R_drew)); exact HO354.out⟩, ⟨by repeat (first | (with_reducible first | exact HB.out | apply below_alloc | apply pw_below_drewN | apply below_drew1) | exact HB.out)⟩⟩
                      · rw [if_neg c22] at H
                        exact absurd H (by simp)
                · rw [if_neg c11] at H
                  exact absurd H (by simp)
              · rw [if_neg c10] at H
                exact absurd H (by simp)
            · rw [if_neg c9] at H
              have c9b0 : decide (x17_1 < (l0.length : Int)) = false := decide_eq_false c9
              clear c9
              obtain rfl := Option.some.inj H
              go_wp2
              go_ret
              exact ⟨_, by first | rfl | (simp [errW_none, errW_some] <;> rfl) | (simp [*, errW_none, errW_some] <;> rfl), by (with_reducible repeat (first | apply Kd.R_alloc | apply Kd.R_drewN | apply Kd.R_drew)); exact HO_3.out, by repeat (first | (with_reducible first | exact HB.out | apply below_alloc | apply pw_below_drewN | apply below_drew1) | exact HB.out)⟩
      · rw [if_neg c6] at H
        exact absurd H (by simp)
    · rw [if_neg c5] at H
      exact absurd H (by simp)
end Go.Proofs.YtjkpelaeelihhaaGreatDoorRR.Y
end
section
namespace Go.Proofs.YtjkpelaeelihhaaGreatDoorRR.Y
open Go.RowKit Go.Proofs.YtjkpelaeelihhaaGreatDoorRRW.PrintWords Go.Proofs.YtjkpelaeelihhaaGreatDoorRRW.PrintLast Go.Proofs.YtjkpelaeelihhaaGreatDoorRRW.PrintMore
attribute [local go_sem] max2_int min2_int max_two min_two max_three min_three max_four min_four   -- for this text's walks alone
set_option linter.unusedVariables false
set_option linter.unusedSimpArgs false
/-! ### xansi_zzJoin: function 103 -/
def xansi_zzJoin.l0 : Nat → ByteArray → ByteArray → List ByteArray → Int → Int → Option (ByteArray)
  | 0, _, _, _, _, _ => none
  | k + 1, x1, x5, x8, x9, x10 => if x10 < x9 then (if 0 ≤ x10 then (if x10 < (x8.length : Int) then (if x10 > 0 then (if x5.size + x1.size ≤ 9223372036854775807 then (if x5.size + x1.size + (rdOf ByteArray.empty x8 x10).size ≤ 9223372036854775807 then (xansi_zzJoin.l0 k x1 ((x5 ++ x1) ++ (rdOf ByteArray.empty x8 x10)) x8 x9 (wrap64 (x10 + 1))) else (none)) else (none)) else (if x5.size + (rdOf ByteArray.empty x8 x10).size ≤ 9223372036854775807 then (xansi_zzJoin.l0 k x1 (x5 ++ (rdOf ByteArray.empty x8 x10)) x8 x9 (wrap64 (x10 + 1))) else (none))) else (none)) else (none)) else (some x5)
def xansi_zzJoin.f (k : Nat) (l0 : List ByteArray) (a1 : ByteArray) : Option (ByteArray) := xansi_zzJoin.l0 k a1 (⟨#[]⟩ : ByteArray) l0 (l0.length : Int) 0
theorem xansi_zzJoin.mono_l : ∀ k, (∀ y0 y1 y2 y3 y4, LeO (xansi_zzJoin.l0 k y0 y1 y2 y3 y4) (xansi_zzJoin.l0 (k + 1) y0 y1 y2 y3 y4))
  | 0 => fun _ _ _ _ _ r h => by simp [xansi_zzJoin.l0] at h
  | k + 1 => by
    have ih0 := xansi_zzJoin.mono_l k
    · intro y0 y1 y2 y3 y4
      unfold xansi_zzJoin.l0
      repeat' first
      | (with_reducible exact ih0 _ _ _ _ _)
      | (with_reducible exact LeO.refl _)
      | (with_reducible exact LeO.none _)
      | (with_reducible refine LeO.ite ?_ ?_)
      | (with_reducible refine LeO.bind ?_ (fun _ => ?_))
      | exact ih0 _ _ _ _ _
      | exact LeO.none _
      | refine LeO.ite ?_ ?_
      | refine LeO.bind ?_ (fun _ => ?_)
theorem xansi_zzJoin.mono : ∀ a0 a1 k, LeO (xansi_zzJoin.f k a0 a1) (xansi_zzJoin.f (k + 1) a0 a1) := by
  intro a0 a1 k
  have ih0 := xansi_zzJoin.mono_l k
  unfold xansi_zzJoin.f
  repeat' first
      | (with_reducible exact ih0 _ _ _ _ _)
      | (with_reducible exact LeO.refl _)
      | (with_reducible exact LeO.none _)
      | (with_reducible refine LeO.ite ?_ ?_)
      | (with_reducible refine LeO.bind ?_ (fun _ => ?_))
      | exact ih0 _ _ _ _ _
      | exact LeO.none _
      | refine LeO.ite ?_ ?_
      | refine LeO.bind ?_ (fun _ => ?_)
end Go.Proofs.YtjkpelaeelihhaaGreatDoorRR.Y
end
section
namespace Go.Proofs.YtjkpelaeelihhaaGreatDoorRR.Y
open Go.RowKit Go.Proofs.YtjkpelaeelihhaaGreatDoorRRW.PrintWords Go.Proofs.YtjkpelaeelihhaaGreatDoorRRW.PrintLast Go.Proofs.YtjkpelaeelihhaaGreatDoorRRW.PrintMore
attribute [local go_sem] max2_int min2_int max_two min_two max_three min_three max_four min_four   -- for this text's walks alone
set_option linter.unusedVariables false
set_option linter.unusedSimpArgs false
set_option maxHeartbeats 8000000 in
set_option maxRecDepth 100000 in
theorem xansi_zzJoin.calls (k : Nat) (A0 : Option Addr) (c0 : Nat) (l0 : List ByteArray) (a1 : ByteArray) (r : ByteArray) (w : World) (hr0 : Kd.C Kd.string w A0 l0.length l0) (hc0 : l0.length ≤ c0) (h : xansi_zzJoin.f k l0 a1 = some r) :
    Calls Tryz.prog 103 #[.slice A0 l0.length c0, .string a1] w fun e w' => e = .returned (.string r) ∧ Drawn0 w w' := by
  have HR0 := Aside0.mk hr0
  have HC0 := Aside0.mk hc0
  clear hr0 hc0
  have H : (xansi_zzJoin.l0 k a1 (⟨#[]⟩ : ByteArray) l0 (l0.length : Int) 0) = some r := h
  clear h
  have H' := Aside0.mk H
  clear H
  go_enter Tryz.func103, Tryz.ntmps103
  go_wp2
  go_loopg [5, 10] k (fun kq v5 v10 w' => ∃ (x5_1 : ByteArray) (x10_1 : Int), v5 = .string x5_1 ∧ v10 = .int .i64 x10_1 ∧ Aside0 (xansi_zzJoin.l0 kq a1 x5_1 l0 (l0.length : Int) x10_1 = some r) ∧ Aside0 (kq ≤ k) ∧ Drawn0 w w')
  case atStart => exact ⟨((⟨#[]⟩ : ByteArray)), (0), (by first | rfl | (simp; done) | (simp [*]; done)), (by first | rfl | (simp; done) | (simp [*]; done)), H', ⟨Nat.le_refl _⟩, by repeat (first | exact Drawn0.refl _ | apply Drawn0.step)⟩
  case round =>
    clear H'
    try clear c1
    try clear p2
    obtain ⟨x5_1, x10_1, rfl, rfl, HA, HK1, ⟨m1, rfl⟩⟩ := hrel
    cases gk with
    | zero => exact absurd HA.out (by simp [xansi_zzJoin.l0])
    | succ k1 =>
      have H := HA.out
      clear HA
      simp only [xansi_zzJoin.l0] at H
      by_cases c3 : x10_1 < (l0.length : Int)
      · rw [if_pos c3] at H
        have c3b0 : decide (x10_1 < (l0.length : Int)) = true := decide_eq_true c3
        clear c3
        by_cases c4 : 0 ≤ x10_1
        · rw [if_pos c4] at H
          have c4b0 : decide (0 ≤ x10_1) = true := decide_eq_true c4
          clear c4
          by_cases c5 : x10_1 < (l0.length : Int)
          · rw [if_pos c5] at H
            have c5b0 : decide (x10_1 < (l0.length : Int)) = true := decide_eq_true c5
            clear c5
            by_cases c6 : x10_1 > 0
            · rw [if_pos c6] at H
              have c6b0 : decide (0 < x10_1) = true := decide_eq_true c6
              clear c6
              by_cases c7 : x5_1.size + a1.size ≤ 9223372036854775807
              · rw [if_pos c7] at H
                have c7b0 := eq_true c7
                have c7b1 : decide (x5_1.size + a1.size ≤ 9223372036854775807) = true := decide_eq_true c7
                try have c7b2 : (9223372036854775807 < x5_1.size + a1.size) = False := eq_false (Nat.not_lt.2 c7)
                by_cases c8 : x5_1.size + a1.size + (rdOf ByteArray.empty l0 x10_1).size ≤ 9223372036854775807
                · rw [if_pos c8] at H
                  have c8b0 := eq_true c8
                  have c8b1 : decide (x5_1.size + a1.size + (rdOf ByteArray.empty l0 x10_1).size ≤ 9223372036854775807) = true := decide_eq_true c8
                  try have c8b2 : (9223372036854775807 < x5_1.size + a1.size + (rdOf ByteArray.empty l0 x10_1).size) = False := eq_false (Nat.not_lt.2 c8)
                  have H' := Aside0.mk H
                  clear H
                  have p355 : 0 ≤ (x10_1 : Int) := of_decide_eq_true (by first | (with_reducible assumption) | assumption)
                  have q355 : x10_1 < (l0.length : Int) := of_decide_eq_true (by first | (with_reducible assumption) | assumption)
                  obtain ⟨ad355, e355, hx355_0⟩ := Kd.at_string HR0.out x10_1 p355 q355
                  cases e355
                  replace p355 := eq_true p355
                  replace q355 := eq_true q355
                  go_wp2
                  go_roundg k1
                  case measure => have := HK1.out; omega
                  case rel => exact ⟨((x5_1 ++ a1) ++ (rdOf ByteArray.empty l0 x10_1)), (wrap64 (x10_1 + 1)), (by first | rfl | (simp; done) | (simp [*]; done)), (by first | rfl | (simp; done) | (simp [*]; done)), H', ⟨by have := HK1.out; omega⟩, by repeat (first | exact Drawn0.refl _ | apply Drawn0.step)⟩
                · rw [if_neg c8] at H
                  exact absurd H (by simp)
              · rw [if_neg c7] at H
                exact absurd H (by simp)
            · rw [if_neg c6] at H
              have c6b0 : decide (0 < x10_1) = false := decide_eq_false c6
              clear c6
              by_cases c9 : x5_1.size + (rdOf ByteArray.empty l0 x10_1).size ≤ 9223372036854775807
              · rw [if_pos c9] at H
                have c9b0 := eq_true c9
                have c9b1 : decide (x5_1.size + (rdOf ByteArray.empty l0 x10_1).size ≤ 9223372036854775807) = true := decide_eq_true c9
                try have c9b2 : (9223372036854775807 < x5_1.size + (rdOf ByteArray.empty l0 x10_1).size) = False := eq_false (Nat.not_lt.2 c9)
                have H' := Aside0.mk H
                clear H
                have p355 : 0 ≤ (x10_1 : Int) := of_decide_eq_true (by first | (with_reducible assumption) | assumption)
                have q355 : x10_1 < (l0.length : Int) := of_decide_eq_true (by first | (with_reducible assumption) | assumption)
                obtain ⟨ad355, e355, hx355_0⟩ := Kd.at_string HR0.out x10_1 p355 q355
                cases e355
                replace p355 := eq_true p355
                replace q355 := eq_true q355
                go_wp2
                go_roundg k1
                case measure => have := HK1.out; omega
                case rel => exact ⟨(x5_1 ++ (rdOf ByteArray.empty l0 x10_1)), (wrap64 (x10_1 + 1)), (by first | rfl | (simp; done) | (simp [*]; done)), (by first | rfl | (simp; done) | (simp [*]; done)), H', ⟨by have := HK1.out; omega⟩, by repeat (first | exact Drawn0.refl _ | apply Drawn0.step)⟩
              · rw [if_neg c9] at H
                exact absurd H (by simp)
          · rw [if_neg c5] at H
            exact absurd H (by simp)
        · rw [if_neg c4] at H
          exact absurd H (by simp)
      · rw [if_neg c3] at H
        have c3b0 : decide (x10_1 < (l0.length : Int)) = false := decide_eq_false c3
        clear c3
        obtain rfl := Option.some.inj H
        go_wp2
        go_ret
        exact ⟨by first | rfl | (simp; done) | (simp [*]; done), by repeat (first | exact Drawn0.refl _ | apply Drawn0.step)⟩
end Go.Proofs.YtjkpelaeelihhaaGreatDoorRR.Y
end
section
namespace Go.Proofs.YtjkpelaeelihhaaGreatDoorRR.Y
open Go.RowKit Go.Proofs.YtjkpelaeelihhaaGreatDoorRRW.PrintWords Go.Proofs.YtjkpelaeelihhaaGreatDoorRRW.PrintLast Go.Proofs.YtjkpelaeelihhaaGreatDoorRRW.PrintMore
attribute [local go_sem] max2_int min2_int max_two min_two max_three min_three max_four min_four   -- for this text's walks alone
set_option linter.unusedVariables false
set_option linter.unusedSimpArgs false
/-! ### xansi_Style_String: function 105 -/
def xansi_Style_String.f (k : Nat) (l0 : List ByteArray) : Option (ByteArray) := if (l0.length : Int) = 0 then (some (⟨#[27, 91, 109]⟩ : ByteArray)) else ((xansi_zzJoin.f k l0 (⟨#[59]⟩ : ByteArray)).bind fun t356 => (if 2 + t356.size ≤ 9223372036854775807 then (if 2 + t356.size + 1 ≤ 9223372036854775807 then (some (((⟨#[27, 91]⟩ : ByteArray) ++ t356) ++ (⟨#[109]⟩ : ByteArray))) else (none)) else (none)))
theorem xansi_Style_String.mono : ∀ a0 k, LeO (xansi_Style_String.f k a0) (xansi_Style_String.f (k + 1) a0) := by
  intro a0 k
  unfold xansi_Style_String.f
  repeat' first
      | (with_reducible exact xansi_zzJoin.mono _ _ _)
      | (with_reducible exact LeO.refl _)
      | (with_reducible exact LeO.none _)
      | (with_reducible refine LeO.ite ?_ ?_)
      | (with_reducible refine LeO.bind ?_ (fun _ => ?_))
      | exact xansi_zzJoin.mono _ _ _
      | exact LeO.none _
      | refine LeO.ite ?_ ?_
      | refine LeO.bind ?_ (fun _ => ?_)
end Go.Proofs.YtjkpelaeelihhaaGreatDoorRR.Y
end
section
namespace Go.Proofs.YtjkpelaeelihhaaGreatDoorRR.Y
open Go.RowKit Go.Proofs.YtjkpelaeelihhaaGreatDoorRRW.PrintWords Go.Proofs.YtjkpelaeelihhaaGreatDoorRRW.PrintLast Go.Proofs.YtjkpelaeelihhaaGreatDoorRRW.PrintMore
attribute [local go_sem] max2_int min2_int max_two min_two max_three min_three max_four min_four   -- for this text's walks alone
set_option linter.unusedVariables false
set_option linter.unusedSimpArgs false
set_option maxHeartbeats 8000000 in
set_option maxRecDepth 100000 in
theorem xansi_Style_String.calls (k : Nat) (A0 : Option Addr) (c0 : Nat) (l0 : List ByteArray) (r : ByteArray) (w : World) (hr0 : Kd.C Kd.string w A0 l0.length l0) (hc0 : l0.length ≤ c0) (h : xansi_Style_String.f k l0 = some r) :
    Calls Tryz.prog 105 #[.slice A0 l0.length c0] w fun e w' => e = .returned (.string r) ∧ Drawn0 w w' := by
  have HR0 := Aside0.mk hr0
  have HC0 := Aside0.mk hc0
  clear hr0 hc0
  have H : (if (l0.length : Int) = 0 then (some (⟨#[27, 91, 109]⟩ : ByteArray)) else ((xansi_zzJoin.f k l0 (⟨#[59]⟩ : ByteArray)).bind fun t356 => (if 2 + t356.size ≤ 9223372036854775807 then (if 2 + t356.size + 1 ≤ 9223372036854775807 then (some (((⟨#[27, 91]⟩ : ByteArray) ++ t356) ++ (⟨#[109]⟩ : ByteArray))) else (none)) else (none)))) = some r := h
  clear h
  by_cases c2 : (l0.length : Int) = 0
  · rw [if_pos c2] at H
    have c2b0 : ((l0.length : Int) == 0) = true := beq_iff_eq.mpr c2
    have c2b1 : ((l0.length : Int) != 0) = false := bne_eq_false_iff_eq.mpr c2
    clear c2
    obtain rfl := Option.some.inj H
    go_enter Tryz.func105, Tryz.ntmps105
    go_wp2
    go_ret
    exact ⟨by first | rfl | (simp; done) | (simp [*]; done), by repeat (first | exact Drawn0.refl _ | apply Drawn0.step)⟩
  · rw [if_neg c2] at H
    have c2b0 : ((l0.length : Int) == 0) = false := beq_eq_false_iff_ne.mpr c2
    have c2b1 : ((l0.length : Int) != 0) = true := bne_iff_ne.mpr c2
    have c2b2 : ¬ (l0 = []) := fun h_ => c2 (by rw [h_]; rfl)
    replace H := Option.bind_eq_some_iff.mp H
    obtain ⟨t356, A30, H⟩ := H
    replace H : (if 2 + t356.size ≤ 9223372036854775807 then (if 2 + t356.size + 1 ≤ 9223372036854775807 then (some (((⟨#[27, 91]⟩ : ByteArray) ++ t356) ++ (⟨#[109]⟩ : ByteArray))) else (none)) else (none)) = some r := H
    have A3 := Aside0.mk A30
    clear A30
    by_cases c4 : 2 + t356.size ≤ 9223372036854775807
    · rw [if_pos c4] at H
      have c4b0 := eq_true c4
      have c4b1 : decide (2 + t356.size ≤ 9223372036854775807) = true := decide_eq_true c4
      try have c4b2 : (9223372036854775807 < 2 + t356.size) = False := eq_false (Nat.not_lt.2 c4)
      by_cases c5 : 2 + t356.size + 1 ≤ 9223372036854775807
      · rw [if_pos c5] at H
        have c5b0 := eq_true c5
        have c5b1 : decide (2 + t356.size + 1 ≤ 9223372036854775807) = true := decide_eq_true c5
        try have c5b2 : (9223372036854775807 < 2 + t356.size + 1) = False := eq_false (Nat.not_lt.2 c5)
        obtain rfl := Option.some.inj H
        go_enter Tryz.func105, Tryz.ntmps105
        go_wp2_with (first | ((with_reducible refine gate_callee (f := 103) rfl ?_); refine goesL_ (some 7) rfl rfl Tryz.func103 (by kernel_rfl) rfl #[.slice A0 l0.length c0, .string (⟨#[59]⟩ : ByteArray)] rfl (by (try simp only [List.map_toArray, List.map_cons, List.map_nil]); first | done | rfl | (simp only [List.length_drop, List.length_take]; rfl)) ?_; (with_reducible refine (xansi_zzJoin.calls k _ _ l0 (⟨#[59]⟩ : ByteArray) t356 _ ?side1 ?side2 A3.out).mono ?_); (case side1 => repeat (first | exact HR0.out | (with_reducible refine Kd.C_alloc ?_ _) | (with_reducible refine Kd.C_drewN ?_ _) | (with_reducible refine Kd.C_drew ?_))); (case side2 => exact HC0.out); rintro e w' ⟨rfl, ⟨nd, rfl⟩⟩; refine ⟨_, rfl, ?_⟩))
        go_ret
        exact ⟨by first | rfl | (simp; done) | (simp [*]; done), by repeat (first | exact Drawn0.refl _ | apply Drawn0.step)⟩
      · rw [if_neg c5] at H
        exact absurd H (by simp)
    · rw [if_neg c4] at H
      exact absurd H (by simp)
end Go.Proofs.YtjkpelaeelihhaaGreatDoorRR.Y
end
section
namespace Go.Proofs.YtjkpelaeelihhaaGreatDoorRR.Y
open Go.RowKit Go.Proofs.YtjkpelaeelihhaaGreatDoorRRW.PrintWords Go.Proofs.YtjkpelaeelihhaaGreatDoorRRW.PrintLast Go.Proofs.YtjkpelaeelihhaaGreatDoorRRW.PrintMore
attribute [local go_sem] max2_int min2_int max_two min_two max_three min_three max_four min_four   -- for this text's walks alone
set_option linter.unusedVariables false
set_option linter.unusedSimpArgs false
/-! ### xansi_SelectGraphicRendition: function 76 -/
def xansi_SelectGraphicRendition.f (k : Nat) (l0 : List Int) : Option (ByteArray) := if (l0.length : Int) = 0 then (some (⟨#[27, 91, 109]⟩ : ByteArray)) else ((xansi_NewStyle.f k l0).bind fun t357 => ((xansi_Style_String.f k t357).bind fun t360 => (some t360)))
theorem xansi_SelectGraphicRendition.mono : ∀ a0 k, LeO (xansi_SelectGraphicRendition.f k a0) (xansi_SelectGraphicRendition.f (k + 1) a0) := by
  intro a0 k
  unfold xansi_SelectGraphicRendition.f
  repeat' first
      | (with_reducible exact xansi_NewStyle.mono _ _)
      | (with_reducible exact xansi_Style_String.mono _ _)
      | (with_reducible exact LeO.refl _)
      | (with_reducible exact LeO.none _)
      | (with_reducible refine LeO.ite ?_ ?_)
      | (with_reducible refine LeO.bind ?_ (fun _ => ?_))
      | exact xansi_NewStyle.mono _ _
      | exact xansi_Style_String.mono _ _
      | exact LeO.none _
      | refine LeO.ite ?_ ?_
      | refine LeO.bind ?_ (fun _ => ?_)
end Go.Proofs.YtjkpelaeelihhaaGreatDoorRR.Y
end
section
namespace Go.Proofs.YtjkpelaeelihhaaGreatDoorRR.Y
open Go.RowKit Go.Proofs.YtjkpelaeelihhaaGreatDoorRRW.PrintWords Go.Proofs.YtjkpelaeelihhaaGreatDoorRRW.PrintLast Go.Proofs.YtjkpelaeelihhaaGreatDoorRRW.PrintMore
attribute [local go_sem] max2_int min2_int max_two min_two max_three min_three max_four min_four   -- for this text's walks alone
set_option linter.unusedVariables false
set_option linter.unusedSimpArgs false
set_option maxHeartbeats 8000000 in
set_option maxRecDepth 100000 in
theorem xansi_SelectGraphicRendition.calls (k : Nat) (A0 : Option Addr) (c0 : Nat) (l0 : List Int) (r : ByteArray) (w : World) (hT : XTab w) (hr0 : Kd.C (Kd.int .i64) w A0 l0.length l0) (hc0 : l0.length ≤ c0) (h : xansi_SelectGraphicRendition.f k l0 = some r) :
    Calls Tryz.prog 76 #[.slice A0 l0.length c0] w fun e w' => e = .returned (.string r) ∧ Below w.heap.size w w' := by
  have HT := Aside0.mk hT
  clear hT
  have HR0 := Aside0.mk hr0
  have HC0 := Aside0.mk hc0
  clear hr0 hc0
  have HB := Aside0.mk (Below.refl w.heap.size w)
  have H : (if (l0.length : Int) = 0 then (some (⟨#[27, 91, 109]⟩ : ByteArray)) else ((xansi_NewStyle.f k l0).bind fun t357 => ((xansi_Style_String.f k t357).bind fun t360 => (some t360)))) = some r := h
  clear h
  by_cases c2 : (l0.length : Int) = 0
  · rw [if_pos c2] at H
    have c2b0 : ((l0.length : Int) == 0) = true := beq_iff_eq.mpr c2
    have c2b1 : ((l0.length : Int) != 0) = false := bne_eq_false_iff_eq.mpr c2
    clear c2
    obtain rfl := Option.some.inj H
    go_enter Tryz.func76, Tryz.ntmps76
    go_wp2
    go_ret
    exact ⟨by first | rfl | (simp [errW_none, errW_some] <;> rfl) | (simp [*, errW_none, errW_some] <;> rfl), by repeat (first | (with_reducible first | exact HB.out | apply below_alloc | apply pw_below_drewN | apply below_drew1) | exact HB.out)⟩
  · rw [if_neg c2] at H
    have c2b0 : ((l0.length : Int) == 0) = false := beq_eq_false_iff_ne.mpr c2
    have c2b1 : ((l0.length : Int) != 0) = true := bne_iff_ne.mpr c2
    have c2b2 : ¬ (l0 = []) := fun h_ => c2 (by rw [h_]; rfl)
    replace H := Option.bind_eq_some_iff.mp H
    obtain ⟨t357, A30, H⟩ := H
    replace H : ((xansi_Style_String.f k t357).bind fun t360 => (some t360)) = some r := H
    have A3 := Aside0.mk A30
    clear A30
    replace H := Option.bind_eq_some_iff.mp H
    obtain ⟨t360, A40, H⟩ := H
    replace H : (some t360) = some r := H
    have A4 := Aside0.mk A40
    clear A40
    obtain rfl := Option.some.inj H
    go_enter Tryz.func76, Tryz.ntmps76
    go_wp2_with (first | ((with_reducible refine gate_callee (f := 104) rfl ?_); refine goesL_ (some 7) rfl rfl Tryz.func104 (by kernel_rfl) rfl #[.slice A0 l0.length c0] rfl (by (try simp only [List.map_toArray, List.map_cons, List.map_nil]); first | done | rfl | (simp only [List.length_drop, List.length_take]; rfl)) ?_; (with_reducible refine (xansi_NewStyle.calls k _ _ l0 t357 _ ?side3 ?side1 ?side2 A3.out).mono ?_); (case side1 => repeat (first | exact HR0.out | (with_reducible refine Kd.C_alloc ?_ _) | (with_reducible refine Kd.C_drewN ?_ _) | (with_reducible refine Kd.C_drew ?_))); (case side2 => exact HC0.out); (case side3 => exact XTab.below HT.out (by repeat (first | (with_reducible first | exact HB.out | apply below_alloc | apply pw_below_drewN | apply below_drew1) | exact HB.out))); rintro e w5 ⟨v358, rfl, ho0, hb⟩; refine ⟨_, rfl, ?_⟩; have n0_ := Aside0.mk (Kd.R_lower ho0 (below_size (by repeat (first | (with_reducible first | exact HB.out | apply below_alloc | apply pw_below_drewN | apply below_drew1) | exact HB.out)))); have n1_ := Aside0.mk (below_step (by repeat (first | (with_reducible first | exact HB.out | apply below_alloc | apply pw_below_drewN | apply below_drew1) | exact HB.out)) hb); clear HB; have HO359 := n0_; have HB := n1_; clear n0_ n1_; (try clear hb); (try clear hb2); (try clear hk); (try clear hi); (try clear ho0); obtain ⟨Ao6, co6, eo6⟩ := Kd.R_slice HO359.out; subst eo6) | ((with_reducible refine gate_callee (f := 105) rfl ?_); refine goesL_ (some 8) rfl rfl Tryz.func105 (by kernel_rfl) rfl #[.slice Ao6 t357.length co6] rfl (by (try simp only [List.map_toArray, List.map_cons, List.map_nil]); first | done | rfl | (simp only [List.length_drop, List.length_take]; rfl)) ?_; (with_reducible refine (xansi_Style_String.calls k _ _ t357 t360 _ ?side1 ?side2 A4.out).mono ?_); (case side1 => repeat (first | exact (Kd.R_reads' HO359.out).2.2 | (with_reducible refine Kd.C_alloc ?_ _) | (with_reducible refine Kd.C_drewN ?_ _) | (with_reducible refine Kd.C_drew ?_))); (case side2 => exact (Kd.R_reads' HO359.out).2.1); rintro e w' ⟨rfl, ⟨nd, rfl⟩⟩; refine ⟨_, rfl, ?_⟩))
    go_ret
    exact ⟨by first | rfl | (simp [errW_none, errW_some] <;> rfl) | (simp [*, errW_none, errW_some] <;> rfl), by repeat (first | (with_reducible first | exact HB.out | apply below_alloc | apply pw_below_drewN | apply below_drew1) | exact HB.out)⟩
end Go.Proofs.YtjkpelaeelihhaaGreatDoorRR.Y
end
section
namespace Go.Proofs.YtjkpelaeelihhaaGreatDoorRR.Y
open Go.RowKit Go.Proofs.YtjkpelaeelihhaaGreatDoorRRW.PrintWords Go.Proofs.YtjkpelaeelihhaaGreatDoorRRW.PrintLast Go.Proofs.YtjkpelaeelihhaaGreatDoorRRW.PrintMore
def impl_MakeList.f (k : Nat) (a0 : Int) (l1 : List Int) : Option (ByteArray) := if a0 = 4 then (impl_count.f k l1).bind fun t => xansi_SelectGraphicRendition.f k t else none
theorem impl_MakeList.mono : ∀ a0 a1 k, LeO (impl_MakeList.f k a0 a1) (impl_MakeList.f (k + 1) a0 a1) := by
  intro a0 a1 k
  unfold impl_MakeList.f
  exact LeO.ite (LeO.bind (impl_count.mono _ _) (fun _ => xansi_SelectGraphicRendition.mono _ _)) (LeO.none _)
theorem impl_MakeList.calls (k : Nat) (a0 : Int) (A1 : Option Addr) (c1 : Nat) (l1 : List Int) (r : ByteArray) (w : World) (hT : XTab w) (hr1 : Kd.C (Kd.int .i64) w A1 l1.length l1) (hc1 : l1.length ≤ c1) (h : impl_MakeList.f k a0 l1 = some r) :
    Calls Tryz.prog 19 #[.int .i64 a0, .slice A1 l1.length c1] w fun e w' => e = .returned (.string r) ∧ Below w.heap.size w w' := by
  unfold impl_MakeList.f at h
  split at h
  · rename_i hc
    subst hc
    obtain ⟨t, h1, h2⟩ := Option.bind_eq_some_iff.1 h
    have HC := Lib.hid (And.intro hT (And.intro hr1 (And.intro h1 h2)))
    clear h hT hr1 h1 h2
    go_enter Tryz.func19, Tryz.ntmps19
    go_wp2_with fail
    refine (impl_count.calls k _ _ l1 t w HC.out.2.1 hc1 HC.out.2.2.1).mono ?_
    rintro e w1 ⟨v, rfl, hR, hb⟩
    obtain ⟨Av, cv, rfl⟩ := Kd.R_slice hR
    have HR := Lib.hid (And.intro (Kd.R_reads' hR).2 hb)
    clear hR hb
    go_wp2_with fail
    refine (xansi_SelectGraphicRendition.calls k _ _ t r w1 (HC.out.1.below HR.out.2) HR.out.1.2 HR.out.1.1 HC.out.2.2.2).mono ?_
    rintro e w2 ⟨rfl, hb2⟩
    have HB := Lib.hid (HR.out.2.trans (hb2.mono HR.out.2.size))
    clear hb2
    go_wp2_with fail
    go_ret
    exact ⟨rfl, HB.out⟩
  · exact absurd h (by simp)
end Go.Proofs.YtjkpelaeelihhaaGreatDoorRR.Y
end
section
namespace Go.Proofs.YtjkpelaeelihhaaGreatDoorRR.Y
open Go.RowKit Go.Proofs.YtjkpelaeelihhaaGreatDoorRRW.PrintWords Go.Proofs.YtjkpelaeelihhaaGreatDoorRRW.PrintLast Go.Proofs.YtjkpelaeelihhaaGreatDoorRRW.PrintMore
attribute [local go_sem] max2_int min2_int max_two min_two max_three min_three max_four min_four   -- for this text's walks alone
set_option linter.unusedVariables false
set_option linter.unusedSimpArgs false
/-! ### laws_drawMade: function 27 -/
def laws_drawMade.j0 : Nat → Bool → Int → Int → Int → ByteArray → List Int → Option (ByteArray)
  | 0, _, _, _, _, _, _ => none
  | k + 1, x12, x178000, x178001, x178002, x178003, x178004 => if x12 = true then ((impl_MakePair.f k (wrap64 (x178000 - 40)) x178001 x178002).bind fun t180 => (some t180)) else (if x178000 = 50 then (some (⟨#[27, 55]⟩ : ByteArray)) else (if x178000 = 51 then (some (⟨#[27, 56]⟩ : ByteArray)) else (if x178000 = 52 then ((impl_MakeList.f k 4 x178004).bind fun t181 => (some t181)) else (if x178000 = 61 then (some (strOfNums (([(x178001) % 256] : List Int)))) else (some x178003)))))
def laws_drawMade.f (k : Nat) (a0_0 : Int) (a0_1 : Int) (a0_2 : Int) (a0_3 : ByteArray) (l0_4 : List Int) : Option (ByteArray) := (spec_IsDrawNumber.f a0_0).bind fun t178 => (if t178 = true then ((impl_MakeNumber.f a0_0 a0_1).bind fun t179 => (some t179)) else (if a0_0 = 40 then (laws_drawMade.j0 k true a0_0 a0_1 a0_2 a0_3 l0_4) else (if a0_0 = 41 then (laws_drawMade.j0 k true a0_0 a0_1 a0_2 a0_3 l0_4) else (laws_drawMade.j0 k (a0_0 == 42) a0_0 a0_1 a0_2 a0_3 l0_4))))
theorem laws_drawMade.mono_l : ∀ k, (∀ y0 y1 y2 y3 y4 y5, LeO (laws_drawMade.j0 k y0 y1 y2 y3 y4 y5) (laws_drawMade.j0 (k + 1) y0 y1 y2 y3 y4 y5))
  | 0 => fun _ _ _ _ _ _ r h => by simp [laws_drawMade.j0] at h
  | k + 1 => by
    have ih0 := laws_drawMade.mono_l k
    · intro y0 y1 y2 y3 y4 y5
      unfold laws_drawMade.j0
      repeat' first
      | (with_reducible exact ih0 _ _ _ _ _ _)
      | (with_reducible exact impl_MakeList.mono _ _ _)
      | (with_reducible exact impl_MakePair.mono _ _ _ _)
      | (with_reducible exact LeO.refl _)
      | (with_reducible exact LeO.none _)
      | (with_reducible refine LeO.ite ?_ ?_)
      | (with_reducible refine LeO.bind ?_ (fun _ => ?_))
      | exact ih0 _ _ _ _ _ _
      | exact impl_MakeList.mono _ _ _
      | exact impl_MakePair.mono _ _ _ _
      | exact LeO.none _
      | refine LeO.ite ?_ ?_
      | refine LeO.bind ?_ (fun _ => ?_)
theorem laws_drawMade.mono : ∀ a0 a1 a2 a3 a4 k, LeO (laws_drawMade.f k a0 a1 a2 a3 a4) (laws_drawMade.f (k + 1) a0 a1 a2 a3 a4) := by
  intro a0 a1 a2 a3 a4 k
  have ih0 := laws_drawMade.mono_l k
  unfold laws_drawMade.f
  repeat' first
      | (with_reducible exact ih0 _ _ _ _ _ _)
      | (with_reducible exact impl_MakeList.mono _ _ _)
      | (with_reducible exact impl_MakePair.mono _ _ _ _)
      | (with_reducible exact LeO.refl _)
      | (with_reducible exact LeO.none _)
      | (with_reducible refine LeO.ite ?_ ?_)
      | (with_reducible refine LeO.bind ?_ (fun _ => ?_))
      | exact ih0 _ _ _ _ _ _
      | exact impl_MakeList.mono _ _ _
      | exact impl_MakePair.mono _ _ _ _
      | exact LeO.none _
      | refine LeO.ite ?_ ?_
      | refine LeO.bind ?_ (fun _ => ?_)
end Go.Proofs.YtjkpelaeelihhaaGreatDoorRR.Y
end
section
namespace Go.Proofs.YtjkpelaeelihhaaGreatDoorRR.Y
open Go.RowKit Go.Proofs.YtjkpelaeelihhaaGreatDoorRRW.PrintWords Go.Proofs.YtjkpelaeelihhaaGreatDoorRRW.PrintLast Go.Proofs.YtjkpelaeelihhaaGreatDoorRRW.PrintMore
attribute [local go_sem] max2_int min2_int max_two min_two max_three min_three max_four min_four   -- for this text's walks alone
set_option linter.unusedVariables false
set_option linter.unusedSimpArgs false
/-! ### laws_drawText: function 12 -/
def laws_drawText.l0 : Nat → ByteArray → List (S45) → Int → Int → Option (List Int)
  | 0, _, _, _, _ => none
  | k + 1, x3, x6, x7, x8 => if x8 < x7 then (if 0 ≤ x8 then (if x8 < (x6.length : Int) then ((laws_drawMade.f k ((rd_T45 x6 x8).f0) ((rd_T45 x6 x8).f1) ((rd_T45 x6 x8).f2) ((rd_T45 x6 x8).f3) ((rd_T45 x6 x8).f4)).bind fun t187 => (if x3.size + t187.size ≤ 9223372036854775807 then (laws_drawText.l0 k (x3 ++ t187) x6 x7 (wrap64 (x8 + 1))) else (none))) else (none)) else (none)) else ((gosem_conv.f x3).bind fun t188 => (some t188))
def laws_drawText.f (k : Nat) (l0 : List (S45)) : Option (List Int) := laws_drawText.l0 k (⟨#[]⟩ : ByteArray) l0 (l0.length : Int) 0
theorem laws_drawText.mono_l : ∀ k, (∀ y0 y1 y2 y3, LeO (laws_drawText.l0 k y0 y1 y2 y3) (laws_drawText.l0 (k + 1) y0 y1 y2 y3))
  | 0 => fun _ _ _ _ r h => by simp [laws_drawText.l0] at h
  | k + 1 => by
    have ih0 := laws_drawText.mono_l k
    · intro y0 y1 y2 y3
      unfold laws_drawText.l0
      repeat' first
      | (with_reducible exact ih0 _ _ _ _)
      | (with_reducible exact laws_drawMade.mono _ _ _ _ _ _)
      | (with_reducible exact LeO.refl _)
      | (with_reducible exact LeO.none _)
      | (with_reducible refine LeO.ite ?_ ?_)
      | (with_reducible refine LeO.bind ?_ (fun _ => ?_))
      | exact ih0 _ _ _ _
      | exact laws_drawMade.mono _ _ _ _ _ _
      | exact LeO.none _
      | refine LeO.ite ?_ ?_
      | refine LeO.bind ?_ (fun _ => ?_)
theorem laws_drawText.mono : ∀ a0 k, LeO (laws_drawText.f k a0) (laws_drawText.f (k + 1) a0) := by
  intro a0 k
  have ih0 := laws_drawText.mono_l k
  unfold laws_drawText.f
  repeat' first
      | (with_reducible exact ih0 _ _ _ _)
      | (with_reducible exact laws_drawMade.mono _ _ _ _ _ _)
      | (with_reducible exact LeO.refl _)
      | (with_reducible exact LeO.none _)
      | (with_reducible refine LeO.ite ?_ ?_)
      | (with_reducible refine LeO.bind ?_ (fun _ => ?_))
      | exact ih0 _ _ _ _
      | exact laws_drawMade.mono _ _ _ _ _ _
      | exact LeO.none _
      | refine LeO.ite ?_ ?_
      | refine LeO.bind ?_ (fun _ => ?_)
end Go.Proofs.YtjkpelaeelihhaaGreatDoorRR.Y
end
