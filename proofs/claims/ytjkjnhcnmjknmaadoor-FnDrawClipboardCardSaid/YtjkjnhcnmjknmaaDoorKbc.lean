/- Texts of this claim, joined: Y58. Of each, what the claim uses. -/
import Derived.Test.YtjkjnhcnmjknmaaDoorKax
import Derived.Test.YtjkjnhcnmjknmaaDoorKad
import Derived.Test.YtjkjnhcnmjknmaaDoorKas
import Derived.Test.YtjkjnhcnmjknmaaDoorKaz
import Derived.Test.YtjkjnhcnmjknmaaDoorKbb
import Derived.Test.YtjkjnhcnmjknmaaDoorKay
import Derived.Test.YtjkjnhcnmjknmaaDoorKaq
section
namespace Go.Proofs.YtjkjnhcnmjknmaaDoor.Y
open Go.RowKit Go.Proofs.YtjkjnhcnmjknmaaDoorW.PrintWords Go.Proofs.YtjkjnhcnmjknmaaDoorW.PrintLast Go.Proofs.YtjkjnhcnmjknmaaDoorW.PrintMore
attribute [local go_sem] max2_int min2_int max_two min_two max_three min_three max_four min_four   -- for this text's walks alone
set_option linter.unusedVariables false
set_option linter.unusedSimpArgs false
set_option maxHeartbeats 8000000 in
set_option maxRecDepth 100000 in
theorem laws_FnDrawClipboard.calls (k : Nat) (a0 : Int) (a1 : ByteArray) (r : Bool) (w : World) (hT : XTab w) (h : laws_FnDrawClipboard.f k a0 a1 = some r) :
    Calls Tryd.prog 4 #[.int .u8 a0, .string a1] w fun e w' => e = .returned (.bool r) ∧ Below w.heap.size w w' := by
  have HT := Aside0.mk hT
  clear hT
  have HB := Aside0.mk (Below.refl w.heap.size w)
  have H : (if (a1.size : Int) > 2147483647 then (some true) else (if a0 < 97 then (laws_FnDrawClipboard.j0 k a0 a1 true) else (if a0 > 122 then (laws_FnDrawClipboard.j0 k a0 a1 true) else (laws_FnDrawClipboard.j0 k a0 a1 (decide ((a1.size : Int) > 40)))))) = some r := h
  clear h
  by_cases c3 : (a1.size : Int) > 2147483647
  · rw [if_pos c3] at H
    have c3b0 : decide (2147483647 < (a1.size : Int)) = true := decide_eq_true c3
    have c3b1 : decide (2147483647 < a1.size) = true := decide_eq_true (by omega)
    clear c3
    obtain rfl := Option.some.inj H
    go_enter Tryd.func4, Tryd.ntmps4
    go_wp2
    go_ret
    exact ⟨by first | rfl | (simp [errW_none, errW_some] <;> rfl) | (simp [*, errW_none, errW_some] <;> rfl), by repeat (first | (with_reducible first | exact HB.out | apply below_alloc | apply pw_below_drewN | apply below_drew1) | exact HB.out)⟩
  · rw [if_neg c3] at H
    have c3b0 : decide (2147483647 < (a1.size : Int)) = false := decide_eq_false c3
    have c3b1 : decide (2147483647 < a1.size) = false := decide_eq_false (by omega)
    clear c3
    have HC4 := Aside0.mk H
    clear H
    go_enter Tryd.func4, Tryd.ntmps4
    go_upto_region 3 with (fail)
    go_cut [19] (fun v19 wc => ∃ (kq : Nat) (x19_3 : Bool), v19 = .bool x19_3 ∧ Aside0 (laws_FnDrawClipboard.j0 kq a0 a1 x19_3 = some r) ∧ Aside0 (kq ≤ k) ∧ Aside0 (Below w.heap.size w wc))
    case first =>
      have H := HC4.out
      clear HC4
      by_cases c5 : a0 < 97
      · rw [if_pos c5] at H
        have c5b0 : decide (a0 < 97) = true := decide_eq_true c5
        clear c5
        (first | rw [c5b0] | (simp only [i64_w, i32_w]; rw [c5b0]) | skip)
        have H' := Aside0.mk H
        clear H
        go_wp2
        go_meet
        case rel => exact ⟨_, (true), (by first | rfl | (simp; done) | (simp [*]; done)), H', ⟨by first | omega | exact Nat.le_refl _⟩, ⟨by repeat (first | (with_reducible first | exact HB.out | apply below_alloc | apply pw_below_drewN | apply below_drew1) | exact HB.out)⟩⟩
      · rw [if_neg c5] at H
        have c5b0 : decide (a0 < 97) = false := decide_eq_false c5
        clear c5
        (first | rw [c5b0] | (simp only [i64_w, i32_w]; rw [c5b0]) | skip)
        by_cases c6 : a0 > 122
        · rw [if_pos c6] at H
          have c6b0 : decide (122 < a0) = true := decide_eq_true c6
          clear c6
          have H' := Aside0.mk H
          clear H
          go_wp2
          go_meet
          case rel => exact ⟨_, (true), (by first | rfl | (simp; done) | (simp [*]; done)), H', ⟨by first | omega | exact Nat.le_refl _⟩, ⟨by repeat (first | (with_reducible first | exact HB.out | apply below_alloc | apply pw_below_drewN | apply below_drew1) | exact HB.out)⟩⟩
        · rw [if_neg c6] at H
          have c6b0 : decide (122 < a0) = false := decide_eq_false c6
          clear c6
          have H' := Aside0.mk H
          clear H
          go_wp2
          go_meet
          case rel => exact ⟨_, (decide ((a1.size : Int) > 40)), (by first | rfl | (simp; done) | (simp [*]; done)), H', ⟨by first | omega | exact Nat.le_refl _⟩, ⟨by repeat (first | (with_reducible first | exact HB.out | apply below_alloc | apply pw_below_drewN | apply below_drew1) | exact HB.out)⟩⟩
    case rest => as_aux_lemma =>
      clear HC4
      try clear p2
      try clear c3
      try clear c3b0
      try clear c3b1
      try clear c4
      try clear c5
      try clear c5b0
      try clear c6
      try clear c6b0
      obtain ⟨kq, x19_3, rfl, HA, HJ3, HB⟩ := hcut
      cases kq with
      | zero => exact absurd HA.out (by simp [laws_FnDrawClipboard.j0])
      | succ kj3 =>
        have H := HA.out
        clear HA
        simp only [laws_FnDrawClipboard.j0] at H
        by_cases c7 : x19_3 = true
        · subst c7
          have H1 : ((laws_drawAwake.f).bind fun t208 => (some t208)) = some r := by rw [if_pos rfl] at H; exact H
          clear H
          have H := H1
          clear H1
          replace H := Option.bind_eq_some_iff.mp H
          obtain ⟨t208, A80, H⟩ := H
          replace H : (some t208) = some r := H
          have A8 := Aside0.mk A80
          clear A80
          obtain rfl := Option.some.inj H
          go_wp2_with (first | ((with_reducible refine gate_callee (f := 5) rfl ?_); refine goesL_ (some 20) rfl rfl Tryd.func5 (by kernel_rfl) rfl #[] rfl (by (try simp only [List.map_toArray, List.map_cons, List.map_nil]); first | done | rfl | (simp only [List.length_drop, List.length_take]; rfl)) ?_; (with_reducible refine (laws_drawAwake.calls  t208 _ ?side1 A8.out).mono ?_); (case side1 => exact XTab.below HT.out (by repeat (first | (with_reducible first | exact HB.out | apply below_alloc | apply pw_below_drewN | apply below_drew1) | exact HB.out))); rintro e w9 ⟨rfl, hb⟩; refine ⟨_, rfl, ?_⟩; have n0_ := Aside0.mk (below_step (by repeat (first | (with_reducible first | exact HB.out | apply below_alloc | apply pw_below_drewN | apply below_drew1) | exact HB.out)) hb); clear HB; have HB := n0_; clear n0_; (try clear hb); (try clear hb2); (try clear hk); (try clear hi)))
          go_ret
          exact ⟨by first | rfl | (simp [errW_none, errW_some] <;> rfl) | (simp [*, errW_none, errW_some] <;> rfl), by repeat (first | (with_reducible first | exact HB.out | apply below_alloc | apply pw_below_drewN | apply below_drew1) | exact HB.out)⟩
        · replace c7 := Bool.eq_false_iff.mpr c7
          subst c7
          have H1 : ((some (([a0] : List Int) : List Int)).bind fun y209 => (if (strOfNums y209).size + 1 ≤ 9223372036854775807 then ((gosem_conv.f a1).bind fun t212 => ((spec_Base64.f t212).bind fun t215 => (if (strOfNums y209).size + 1 + t215.size ≤ 9223372036854775807 then ((impl_MakeClipboard.f kj3 0 a0 a1).bind fun t216 => ((gosem_conv.f t216).bind fun t217 => ((impl_Feed.f 32 4096 t217).bind fun t220 => ((laws_drawEvents.f kj3 t220).bind fun t223 => ((spec_DrawTold.f kj3 t223 (([52] : List Int))).bind fun t229 => (if 0 < (t229.length : Int) then (if (rdOf ByteArray.empty t229 0).toList = (((strOfNums y209) ++ (⟨#[59]⟩ : ByteArray)) ++ t215).toList then ((laws_drawAwake.f).bind fun t233 => (some t233)) else (some false)) else (none))))))) else (none)))) else (none))) = some r := by rw [if_neg (show ¬ (false = true) by decide)] at H; exact H
          clear H
          have H := H1
          clear H1
          obtain ⟨y209, hy209⟩ : ∃ y_ : List Int, y_ = (([a0] : List Int)) := ⟨_, rfl⟩
          replace H : (if (strOfNums y209).size + 1 ≤ 9223372036854775807 then ((gosem_conv.f a1).bind fun t212 => ((spec_Base64.f t212).bind fun t215 => (if (strOfNums y209).size + 1 + t215.size ≤ 9223372036854775807 then ((impl_MakeClipboard.f kj3 0 a0 a1).bind fun t216 => ((gosem_conv.f t216).bind fun t217 => ((impl_Feed.f 32 4096 t217).bind fun t220 => ((laws_drawEvents.f kj3 t220).bind fun t223 => ((spec_DrawTold.f kj3 t223 (([52] : List Int))).bind fun t229 => (if 0 < (t229.length : Int) then (if (rdOf ByteArray.empty t229 0).toList = (((strOfNums y209) ++ (⟨#[59]⟩ : ByteArray)) ++ t215).toList then ((laws_drawAwake.f).bind fun t233 => (some t233)) else (some false)) else (none))))))) else (none)))) else (none)) = some r := by first | (rw [hy209]; with_reducible exact H) | (have H2_ := (Option.bind_some _ _).symm.trans H; rw [hy209]; with_reducible exact H2_) | (have H2_ := (Option.bind_some _ _).symm.trans H; with_reducible exact H2_) | with_reducible exact H | (rw [hy209]; exact H) | exact H
          have Ny209 := Aside0.mk hy209
          clear hy209
          by_cases c10 : (strOfNums y209).size + 1 ≤ 9223372036854775807
          · rw [if_pos c10] at H
            have c10b0 := eq_true c10
            have c10b1 : decide ((strOfNums y209).size + 1 ≤ 9223372036854775807) = true := decide_eq_true c10
            try have c10b2 : (9223372036854775807 < (strOfNums y209).size + 1) = False := eq_false (Nat.not_lt.2 c10)
            replace H := Option.bind_eq_some_iff.mp H
            obtain ⟨t212, A110, H⟩ := H
            replace H : ((spec_Base64.f t212).bind fun t215 => (if (strOfNums y209).size + 1 + t215.size ≤ 9223372036854775807 then ((impl_MakeClipboard.f kj3 0 a0 a1).bind fun t216 => ((gosem_conv.f t216).bind fun t217 => ((impl_Feed.f 32 4096 t217).bind fun t220 => ((laws_drawEvents.f kj3 t220).bind fun t223 => ((spec_DrawTold.f kj3 t223 (([52] : List Int))).bind fun t229 => (if 0 < (t229.length : Int) then (if (rdOf ByteArray.empty t229 0).toList = (((strOfNums y209) ++ (⟨#[59]⟩ : ByteArray)) ++ t215).toList then ((laws_drawAwake.f).bind fun t233 => (some t233)) else (some false)) else (none))))))) else (none))) = some r := H
            have A11 := Aside0.mk A110
            clear A110
            replace H := Option.bind_eq_some_iff.mp H
            obtain ⟨t215, A120, H⟩ := H
            replace H : (if (strOfNums y209).size + 1 + t215.size ≤ 9223372036854775807 then ((impl_MakeClipboard.f kj3 0 a0 a1).bind fun t216 => ((gosem_conv.f t216).bind fun t217 => ((impl_Feed.f 32 4096 t217).bind fun t220 => ((laws_drawEvents.f kj3 t220).bind fun t223 => ((spec_DrawTold.f kj3 t223 (([52] : List Int))).bind fun t229 => (if 0 < (t229.length : Int) then (if (rdOf ByteArray.empty t229 0).toList = (((strOfNums y209) ++ (⟨#[59]⟩ : ByteArray)) ++ t215).toList then ((laws_drawAwake.f).bind fun t233 => (some t233)) else (some false)) else (none))))))) else (none)) = some r := H
            have A12 := Aside0.mk A120
            clear A120
            by_cases c13 : (strOfNums y209).size + 1 + t215.size ≤ 9223372036854775807
            · rw [if_pos c13] at H
              have c13b0 := eq_true c13
              have c13b1 : decide ((strOfNums y209).size + 1 + t215.size ≤ 9223372036854775807) = true := decide_eq_true c13
              try have c13b2 : (9223372036854775807 < (strOfNums y209).size + 1 + t215.size) = False := eq_false (Nat.not_lt.2 c13)
              replace H := Option.bind_eq_some_iff.mp H
              obtain ⟨t216, A140, H⟩ := H
              replace H : ((gosem_conv.f t216).bind fun t217 => ((impl_Feed.f 32 4096 t217).bind fun t220 => ((laws_drawEvents.f kj3 t220).bind fun t223 => ((spec_DrawTold.f kj3 t223 (([52] : List Int))).bind fun t229 => (if 0 < (t229.length : Int) then (if (rdOf ByteArray.empty t229 0).toList = (((strOfNums y209) ++ (⟨#[59]⟩ : ByteArray)) ++ t215).toList then ((laws_drawAwake.f).bind fun t233 => (some t233)) else (some false)) else (none)))))) = some r := H
              have A14 := Aside0.mk A140
              clear A140
              replace H := Option.bind_eq_some_iff.mp H
              obtain ⟨t217, A150, H⟩ := H
              replace H : ((impl_Feed.f 32 4096 t217).bind fun t220 => ((laws_drawEvents.f kj3 t220).bind fun t223 => ((spec_DrawTold.f kj3 t223 (([52] : List Int))).bind fun t229 => (if 0 < (t229.length : Int) then (if (rdOf ByteArray.empty t229 0).toList = (((strOfNums y209) ++ (⟨#[59]⟩ : ByteArray)) ++ t215).toList then ((laws_drawAwake.f).bind fun t233 => (some t233)) else (some false)) else (none))))) = some r := H
              have A15 := Aside0.mk A150
              clear A150
              replace H := Option.bind_eq_some_iff.mp H
              obtain ⟨t220, A160, H⟩ := H
              replace H : ((laws_drawEvents.f kj3 t220).bind fun t223 => ((spec_DrawTold.f kj3 t223 (([52] : List Int))).bind fun t229 => (if 0 < (t229.length : Int) then (if (rdOf ByteArray.empty t229 0).toList = (((strOfNums y209) ++ (⟨#[59]⟩ : ByteArray)) ++ t215).toList then ((laws_drawAwake.f).bind fun t233 => (some t233)) else (some false)) else (none)))) = some r := H
              have A16 := Aside0.mk A160
              clear A160
              replace H := Option.bind_eq_some_iff.mp H
              obtain ⟨t223, A170, H⟩ := H
              replace H : ((spec_DrawTold.f kj3 t223 (([52] : List Int))).bind fun t229 => (if 0 < (t229.length : Int) then (if (rdOf ByteArray.empty t229 0).toList = (((strOfNums y209) ++ (⟨#[59]⟩ : ByteArray)) ++ t215).toList then ((laws_drawAwake.f).bind fun t233 => (some t233)) else (some false)) else (none))) = some r := H
              have A17 := Aside0.mk A170
              clear A170
              obtain ⟨y226, hy226⟩ : ∃ y_ : List Int, y_ = (([52] : List Int)) := ⟨_, rfl⟩
              replace H : ((spec_DrawTold.f kj3 t223 y226).bind fun t229 => (if 0 < (t229.length : Int) then (if (rdOf ByteArray.empty t229 0).toList = (((strOfNums y209) ++ (⟨#[59]⟩ : ByteArray)) ++ t215).toList then ((laws_drawAwake.f).bind fun t233 => (some t233)) else (some false)) else (none))) = some r := by first | (rw [hy226]; with_reducible exact H) | (have H2_ := (Option.bind_some _ _).symm.trans H; rw [hy226]; with_reducible exact H2_) | (have H2_ := (Option.bind_some _ _).symm.trans H; with_reducible exact H2_) | with_reducible exact H | (rw [hy226]; exact H) | exact H
              have Ny226 := Aside0.mk hy226
              clear hy226
              replace H := Option.bind_eq_some_iff.mp H
              obtain ⟨t229, A180, H⟩ := H
              replace H : (if 0 < (t229.length : Int) then (if (rdOf ByteArray.empty t229 0).toList = (((strOfNums y209) ++ (⟨#[59]⟩ : ByteArray)) ++ t215).toList then ((laws_drawAwake.f).bind fun t233 => (some t233)) else (some false)) else (none)) = some r := H
              have A18 := Aside0.mk A180
              clear A180
              by_cases c19 : 0 < (t229.length : Int)
              · rw [if_pos c19] at H
                have c19b0 : decide (0 < (t229.length : Int)) = true := decide_eq_true c19
                have c19b1 : decide (0 < t229.length) = true := decide_eq_true (by omega)
                clear c19
                by_cases c20 : (rdOf ByteArray.empty t229 0).toList = (((strOfNums y209) ++ (⟨#[59]⟩ : ByteArray)) ++ t215).toList
                · rw [if_pos c20] at H
                  have c20b0 : ((rdOf ByteArray.empty t229 0).toList == (((strOfNums y209) ++ (⟨#[59]⟩ : ByteArray)) ++ t215).toList) = true := beq_iff_eq.mpr c20
                  have c20b1 : ((rdOf ByteArray.empty t229 0).toList != (((strOfNums y209) ++ (⟨#[59]⟩ : ByteArray)) ++ t215).toList) = false := bne_eq_false_iff_eq.mpr c20
                  clear c20
                  replace H := Option.bind_eq_some_iff.mp H
                  obtain ⟨t233, A210, H⟩ := H
                  replace H : (some t233) = some r := H
                  have A21 := Aside0.mk A210
                  clear A210
                  obtain rfl := Option.some.inj H
                  try go_wp2
                  have n0_ := Aside0.mk (below_drew1 HB.out)
                  clear HB
                  have HB := n0_
                  clear n0_
                  refine start_ (n := 9) (S := fun w' => True) (ds := []) #[false, false, false, false, false, false, false, false, false] (by kernel_rfl) rfl rfl trivial (fun hHeld => ?_); refine with_tabW laws_FnDrawClipboard.tab5 laws_FnDrawClipboard.bits5 (fun HT_ HW_ => ?_)
                  generalize wc.drew = w22 at HB hHeld ⊢
                  refine pure_ (i := 0) (N := some 21) (v := ?_) (a' := ?_) #[true, false, false, false, false, false, false, false, false] rfl rfl (any_of HT_.out (by kernel_rfl)) (fun _ _ _ h => h) (Or.inl ⟨by rfl, ?_⟩) ?_ ?_
                  rotate_left
                  · intro w'
                    go_simp
                    with_reducible rfl
                  rotate_left
                  · simp only [Act.put, List.setIfInBounds_toArray, List.set_cons_zero, List.set_cons_succ, i64_w, i32_w]
                    rfl
                  refine pure_ (i := 4) (N := some 25) (v := ?_) (a' := ?_) #[true, false, false, false, true, false, false, false, false] rfl rfl (any_of HT_.out (by kernel_rfl)) (fun _ _ _ h => h) (Or.inl ⟨by rfl, ?_⟩) ?_ ?_
                  rotate_left
                  · intro w'
                    go_simp
                    with_reducible rfl
                  rotate_left
                  · simp only [Act.put, List.setIfInBounds_toArray, List.set_cons_zero, List.set_cons_succ, i64_w, i32_w]
                    rfl
                  refine join_ (σ := Value × Value) 2 #[true, true, true, true, true, true, true, false, false] (fun s_ => [(22, s_.1), (23, .string (strOfNums y209)), (26, s_.2), (27, .string t215), (24, .string ((strOfNums y209) ++ (⟨#[59]⟩ : ByteArray)))]) (fun s_ w' => (Kd.R (Kd.int .u8) 5 w' w.heap.size (fun _ => True) s_.1 y209) ∧ (Kd.V (Kd.int .u8) 5 w' w.heap.size (fun k_ => some k_ ≠ (s_.1 : Value).ownBlock) s_.2 t212) ∧ (Below w.heap.size w w')) ?_ ?_
                  rotate_left
                  · intro hJ1_2_5_6
                    refine join_ (σ := Value × Value) 3 #[true, true, true, true, true, true, false, false, false] (fun s_ => [(22, s_.1), (23, .string (strOfNums y209)), (26, s_.2), (24, .string ((strOfNums y209) ++ (⟨#[59]⟩ : ByteArray)))]) (fun s_ w' => (Kd.R (Kd.int .u8) 5 w' w.heap.size (fun _ => True) s_.1 y209) ∧ (Kd.V (Kd.int .u8) 5 w' w.heap.size (fun k_ => some k_ ≠ (s_.1 : Value).ownBlock) s_.2 t212) ∧ (Below w.heap.size w w')) ?_ ?_
                    rotate_left
                    · intro hJ1_2_5
                      refine join_ (σ := Value × Value) 4 #[true, true, false, false, true, true, true, false, false] (fun s_ => [(22, s_.1), (26, s_.2), (27, .string t215)]) (fun s_ w' => (Kd.R (Kd.int .u8) 5 w' w.heap.size (fun _ => True) s_.1 y209) ∧ (Kd.V (Kd.int .u8) 5 w' w.heap.size (fun k_ => some k_ ≠ (s_.1 : Value).ownBlock) s_.2 t212) ∧ (Below w.heap.size w w')) ?_ ?_
                      rotate_left
                      · intro hJ1_5_6
                        refine join_ (σ := Value) 4 #[true, true, true, true, true, false, false, false, false] (fun s_ => [(22, s_), (23, .string (strOfNums y209)), (24, .string ((strOfNums y209) ++ (⟨#[59]⟩ : ByteArray)))]) (fun s_ w' => (Kd.R (Kd.int .u8) 5 w' w.heap.size (fun _ => True) s_ y209) ∧ (Below w.heap.size w w')) ?_ ?_
                        rotate_left
                        · intro hJ1_2
                          refine join_ (σ := Value × Value) 5 #[true, true, false, false, true, true, false, false, false] (fun s_ => [(22, s_.1), (26, s_.2)]) (fun s_ w' => (Kd.R (Kd.int .u8) 5 w' w.heap.size (fun _ => True) s_.1 y209) ∧ (Kd.V (Kd.int .u8) 5 w' w.heap.size (fun k_ => some k_ ≠ (s_.1 : Value).ownBlock) s_.2 t212) ∧ (Below w.heap.size w w')) ?_ ?_
                          rotate_left
                          · intro hJ1_5
                            refine join_ (σ := Value) 5 #[true, false, false, false, true, true, true, false, false] (fun s_ => [(26, s_), (27, .string t215)]) (fun s_ w' => (Kd.V (Kd.int .u8) 5 w' w.heap.size (fun _ => True) s_ t212) ∧ (Below w.heap.size w w')) ?_ ?_
                            rotate_left
                            · intro hJ5_6
                              refine join_ (σ := Value) 6 #[true, true, false, false, true, false, false, false, false] (fun s_ => [(22, s_)]) (fun s_ w' => (Kd.R (Kd.int .u8) 5 w' w.heap.size (fun _ => True) s_ y209) ∧ (Below w.heap.size w w')) ?_ ?_
                              rotate_left
                              · intro hJ1
                                refine join_ (σ := Value) 6 #[true, false, false, false, true, true, false, false, false] (fun s_ => [(26, s_)]) (fun s_ w' => (Kd.V (Kd.int .u8) 5 w' w.heap.size (fun _ => True) s_ t212) ∧ (Below w.heap.size w w')) ?_ ?_
                                rotate_left
                                · intro hJ5
                                  refine two_ (i := 1) (j := 5) (Ni := some 22) (Nj := some 26) #[true, true, false, false, true, false, false, false, false] #[true, false, false, false, true, true, false, false, false] rfl rfl rfl rfl (two_of HT_.out (by kernel_rfl)) (by decide) (by decide) (fun K hK => ?_) (fun K hK => ?_)
                                  · skip
                                    refine Kd.R_lit_step (Kd.int .u8) _ 5 ?hg (N := 22) ?hd (xs := ([a0] : List Int)) (inner := [.int .u8 a0]) (ok := fun _ => True) (okp := fun _ => True) ?hr ?hp (fun _ hk => hk) trivial (Below.refl _ _) (Nat.le_refl _) (by simp) ?_; (case hd => rfl); (case hg => rfl); (case hr => first | (go_simp; done) | (go_simp; rfl)); (case hp => exact (Reps.one (show Kd.M (Kd.int .u8) _ _ _ a0 [.int .u8 a0] from rfl) (Reps.none _ _)))
                                    intro v210 w23 ho24 hb hg_ hnew_
                                    clear hg_ hnew_
                                    (first | rw [← Ny209.out] at ho24 | (simp only [Int.reduceToNat] at ho24; rw [← Ny209.out] at ho24))
                                    have n0_ := Aside0.mk (Kd.R_lower ho24 (below_size (by repeat (first | (with_reducible first | exact HB.out | apply below_alloc | apply pw_below_drewN | apply below_drew1) | exact HB.out))))
                                    have n1_ := Aside0.mk (below_step (by repeat (first | (with_reducible first | exact HB.out | apply below_alloc | apply pw_below_drewN | apply below_drew1) | exact HB.out)) hb)
                                    clear HB
                                    have HO211 := n0_
                                    have HB := n1_
                                    clear n0_ n1_
                                    clear hb ho24
                                    refine hK.out _ _ trivial (fun hHeld => ?_)
                                    clear hK K
                                    refine norm_ (a' := ?_) ?_ ?_
                                    rotate_left
                                    · show Act.put _ (some 22) _ = _
                                      simp only [Act.put, List.setIfInBounds_toArray, List.set_cons_zero, List.set_cons_succ, i64_w, i32_w]
                                      rfl
                                    exact norm_ (by first | (simp only [putAll, Act.put, List.setIfInBounds_toArray, List.set_cons_zero, List.set_cons_succ]; done) | (simp only [putAll, Act.put, List.setIfInBounds_toArray, List.set_cons_zero, List.set_cons_succ]; rfl)) (hJ1 (v210) _ ⟨(by (with_reducible repeat (first | apply Kd.R_alloc | apply Kd.R_drewN | apply Kd.R_drew)); exact HO211.out), (by repeat (first | (with_reducible first | exact HB.out | apply below_alloc | apply pw_below_drewN | apply below_drew1) | exact HB.out))⟩)
                                  · skip
                                    refine conv_step 9 28 5 rfl rfl Tryd.underlying9 Tryd.underlying28 Tryd.underlying5 a1 rfl A11.out ?_
                                    rintro e w23 ⟨v213, rfl, ho0, hb⟩
                                    refine ⟨_, rfl, ?_⟩
                                    have n0_ := Aside0.mk (Kd.V_lower (Kd.V_mono (ok' := fun k_ => True) ho0 (fun k_ hk_ => trivial)) (below_size (by repeat (first | (with_reducible first | exact HB.out | apply below_alloc | apply pw_below_drewN | apply below_drew1) | exact HB.out))))
                                    have n1_ := Aside0.mk (below_step (by repeat (first | (with_reducible first | exact HB.out | apply below_alloc | apply pw_below_drewN | apply below_drew1) | exact HB.out)) hb)
                                    clear HB
                                    have HO214 := n0_
                                    have HB := n1_
                                    clear n0_ n1_
                                    (try clear hb)
                                    (try clear hb2)
                                    (try clear hk)
                                    (try clear hi)
                                    (try clear ho0)
                                    refine hK.out _ _ trivial (fun hHeld => ?_)
                                    clear hK K
                                    refine norm_ (a' := ?_) ?_ ?_
                                    rotate_left
                                    · show Act.put _ (some 26) _ = _
                                      simp only [Act.put, List.setIfInBounds_toArray, List.set_cons_zero, List.set_cons_succ, i64_w, i32_w]
                                      rfl
                                    exact norm_ (by first | (simp only [putAll, Act.put, List.setIfInBounds_toArray, List.set_cons_zero, List.set_cons_succ]; done) | (simp only [putAll, Act.put, List.setIfInBounds_toArray, List.set_cons_zero, List.set_cons_succ]; rfl)) (hJ5 (v213) _ ⟨(by (with_reducible repeat (first | apply Kd.V_alloc | apply Kd.V_drewN | apply Kd.V_drew)); exact HO214.out), (by repeat (first | (with_reducible first | exact HB.out | apply below_alloc | apply pw_below_drewN | apply below_drew1) | exact HB.out))⟩)
                                · skip
                                  rintro v213 w24 ⟨h0_, h1_⟩
                                  have n0_ : Aside0 (Kd.V (Kd.int .u8) 5 w24 w.heap.size (fun _ => True) v213 t212) := ⟨h0_⟩
                                  have n1_ : Aside0 (Below w.heap.size w w24) := ⟨h1_⟩
                                  clear HB
                                  clear h0_ h1_
                                  have HO214 := n0_
                                  have HB := n1_
                                  clear n0_ n1_
                                  have hHeld := trivial
                                  refine norm_ (a' := ?_) ?_ ?_
                                  rotate_left
                                  · simp only [putAll, Act.put, List.setIfInBounds_toArray, List.set_cons_zero, List.set_cons_succ]
                                    rfl
                                  refine two_ (i := 1) (j := 6) (Ni := some 22) (Nj := some 27) #[true, true, false, false, true, true, false, false, false] #[true, false, false, false, true, true, true, false, false] rfl rfl rfl rfl (two_of HT_.out (by kernel_rfl)) (by decide) (by decide) (fun K hK => ?_) (fun K hK => ?_)
                                  · skip
                                    refine Kd.R_lit_step (Kd.int .u8) _ 5 ?hg (N := 22) ?hd (xs := ([a0] : List Int)) (inner := [.int .u8 a0]) (ok := fun _ => True) (okp := fun _ => True) ?hr ?hp (fun _ hk => hk) trivial (Below.refl _ _) (Nat.le_refl _) (by simp) ?_; (case hd => rfl); (case hg => rfl); (case hr => first | (go_simp; done) | (go_simp; rfl)); (case hp => exact (Reps.one (show Kd.M (Kd.int .u8) _ _ _ a0 [.int .u8 a0] from rfl) (Reps.none _ _)))
                                    intro v210 w25 ho26 hb hg_ hnew_
                                    clear hg_ hnew_
                                    (first | rw [← Ny209.out] at ho26 | (simp only [Int.reduceToNat] at ho26; rw [← Ny209.out] at ho26))
                                    have n0_ := Aside0.mk (Kd.V_elder' (by (with_reducible repeat (first | apply Kd.V_alloc | apply Kd.V_drewN | apply Kd.V_drew)); exact HO214.out) (Kd.R_base ho26) hb)
                                    have n1_ := Aside0.mk (Kd.R_lower ho26 (below_size (by repeat (first | (with_reducible first | exact HB.out | apply below_alloc | apply pw_below_drewN | apply below_drew1) | exact HB.out))))
                                    have n2_ := Aside0.mk (below_step (by repeat (first | (with_reducible first | exact HB.out | apply below_alloc | apply pw_below_drewN | apply below_drew1) | exact HB.out)) hb)
                                    clear HO214
                                    clear HB
                                    have HO214 := n0_
                                    have HO211 := n1_
                                    have HB := n2_
                                    clear n0_ n1_ n2_
                                    clear hb ho26
                                    refine hK.out _ _ trivial (fun hHeld => ?_)
                                    clear hK K
                                    refine norm_ (a' := ?_) ?_ ?_
                                    rotate_left
                                    · show Act.put _ (some 22) _ = _
                                      simp only [Act.put, List.setIfInBounds_toArray, List.set_cons_zero, List.set_cons_succ, i64_w, i32_w]
                                      rfl
                                    exact norm_ (by first | (simp only [putAll, Act.put, List.setIfInBounds_toArray, List.set_cons_zero, List.set_cons_succ]; done) | (simp only [putAll, Act.put, List.setIfInBounds_toArray, List.set_cons_zero, List.set_cons_succ]; rfl)) (hJ1_5 (v210, v213) _ ⟨(by (with_reducible repeat (first | apply Kd.R_alloc | apply Kd.R_drewN | apply Kd.R_drew)); exact HO211.out), (by (with_reducible repeat (first | apply Kd.V_alloc | apply Kd.V_drewN | apply Kd.V_drew)); exact Kd.V_mono HO214.out (fun _ hk => hk.2)), (by repeat (first | (with_reducible first | exact HB.out | apply below_alloc | apply pw_below_drewN | apply below_drew1) | exact HB.out))⟩)
                                  · skip
                                    obtain ⟨Ao25, co25, eo25⟩ := Kd.V_slice HO214.out
                                    subst eo25
                                    refine goes_ Tryd.func11 (by kernel_rfl) rfl #[.slice Ao25 t212.length co25] (by rfl) rfl rfl (by (try simp only [List.map_toArray, List.map_cons, List.map_nil]); first | done | rfl | (simp only [List.length_drop, List.length_take]; rfl)) ?_
                                    with_reducible refine (spec_Base64.calls _ _ t212 t215 _ ?side1 ?side2 A12.out).mono ?_
                                    (case side1 => repeat (first | exact (Kd.V_reads' HO214.out).2.2 | (with_reducible refine Kd.C_alloc ?_ _) | (with_reducible refine Kd.C_drewN ?_ _) | (with_reducible refine Kd.C_drew ?_)))
                                    (case side2 => exact (Kd.V_reads' HO214.out).2.1)
                                    rintro e w26 ⟨rfl, hb⟩
                                    refine ⟨_, rfl, ?_⟩
                                    have n0_ := Aside0.mk (Kd.V_below (by (with_reducible repeat (first | apply Kd.V_alloc | apply Kd.V_drewN | apply Kd.V_drew)); exact HO214.out) hb)
                                    have n1_ := Aside0.mk (below_step (by repeat (first | (with_reducible first | exact HB.out | apply below_alloc | apply pw_below_drewN | apply below_drew1) | exact HB.out)) hb)
                                    clear HO214
                                    clear HB
                                    have HO214 := n0_
                                    have HB := n1_
                                    clear n0_ n1_
                                    (try clear hb)
                                    (try clear hb2)
                                    (try clear hk)
                                    (try clear hi)
                                    refine hK.out _ _ trivial (fun hHeld => ?_)
                                    clear hK K
                                    refine norm_ (a' := ?_) ?_ ?_
                                    rotate_left
                                    · show Act.put _ (some 27) _ = _
                                      simp only [Act.put, List.setIfInBounds_toArray, List.set_cons_zero, List.set_cons_succ, i64_w, i32_w]
                                      rfl
                                    exact norm_ (by first | (simp only [putAll, Act.put, List.setIfInBounds_toArray, List.set_cons_zero, List.set_cons_succ]; done) | (simp only [putAll, Act.put, List.setIfInBounds_toArray, List.set_cons_zero, List.set_cons_succ]; rfl)) (hJ5_6 (.slice Ao25 t212.length co25) _ ⟨(by (with_reducible repeat (first | apply Kd.V_alloc | apply Kd.V_drewN | apply Kd.V_drew)); exact HO214.out), (by repeat (first | (with_reducible first | exact HB.out | apply below_alloc | apply pw_below_drewN | apply below_drew1) | exact HB.out))⟩)
                              · skip
                                rintro v210 w25 ⟨h0_, h1_⟩
                                have n0_ : Aside0 (Kd.R (Kd.int .u8) 5 w25 w.heap.size (fun _ => True) v210 y209) := ⟨h0_⟩
                                have n1_ : Aside0 (Below w.heap.size w w25) := ⟨h1_⟩
                                clear HB
                                clear h0_ h1_
                                have HO211 := n0_
                                have HB := n1_
                                clear n0_ n1_
                                have hHeld := trivial
                                refine norm_ (a' := ?_) ?_ ?_
                                rotate_left
                                · simp only [putAll, Act.put, List.setIfInBounds_toArray, List.set_cons_zero, List.set_cons_succ]
                                  rfl
                                refine two_ (i := 2) (j := 5) (Ni := some 23) (Nj := some 26) #[true, true, true, false, true, false, false, false, false] #[true, true, false, false, true, true, false, false, false] rfl rfl rfl rfl (two_of HT_.out (by kernel_rfl)) (by decide) (by decide) (fun K hK => ?_) (fun K hK => ?_)
                                · skip
                                  have hcv26 := own_string (P := Tryd.prog) Tryd.underlying28 Tryd.underlying5 Tryd.underlying9 (Kd.own_of_R HO211.out)
                                  refine value_ (w1 := ?_) (v := ?_) (by rfl) rfl ?_ ?_
                                  rotate_left 2
                                  · go_simp
                                    constructor
                                    · rfl
                                    · rfl
                                  clear hcv26
                                  refine hK.out _ _ trivial (fun hHeld => ?_)
                                  clear hK K
                                  refine norm_ (a' := ?_) ?_ ?_
                                  rotate_left
                                  · show Act.put _ (some 23) _ = _
                                    simp only [Act.put, List.setIfInBounds_toArray, List.set_cons_zero, List.set_cons_succ, i64_w, i32_w]
                                    rfl
                                  refine pure_ (i := 3) (N := some 24) (v := ?_) (a' := ?_) #[true, true, true, true, true, false, false, false, false] rfl rfl (any_of HT_.out (by kernel_rfl)) (fun _ _ _ h => h) (Or.inl ⟨by rfl, ?_⟩) ?_ ?_
                                  rotate_left
                                  · intro w'
                                    go_simp
                                    with_reducible rfl
                                  rotate_left
                                  · simp only [Act.put, List.setIfInBounds_toArray, List.set_cons_zero, List.set_cons_succ, i64_w, i32_w]
                                    rfl
                                  exact norm_ (by first | (simp only [putAll, Act.put, List.setIfInBounds_toArray, List.set_cons_zero, List.set_cons_succ]; done) | (simp only [putAll, Act.put, List.setIfInBounds_toArray, List.set_cons_zero, List.set_cons_succ]; rfl)) (hJ1_2 (v210) _ ⟨(by (with_reducible repeat (first | apply Kd.R_alloc | apply Kd.R_drewN | apply Kd.R_drew)); exact HO211.out), (by repeat (first | (with_reducible first | exact HB.out | apply below_alloc | apply pw_below_drewN | apply below_drew1) | exact HB.out))⟩)
                                · skip
                                  refine conv_step 9 28 5 rfl rfl Tryd.underlying9 Tryd.underlying28 Tryd.underlying5 a1 rfl A11.out ?_
                                  rintro e w26 ⟨v213, rfl, ho0, hb⟩
                                  refine ⟨_, rfl, ?_⟩
                                  have n0_ := Aside0.mk (Kd.R_below (by (with_reducible repeat (first | apply Kd.R_alloc | apply Kd.R_drewN | apply Kd.R_drew)); exact HO211.out) hb)
                                  have n1_ := Aside0.mk (Kd.V_lower (Kd.V_mono (ok' := fun k_ => some k_ ≠ (v210 : Value).ownBlock) ho0 (fun k_ hk_ => (Kd.fresh' (Kd.R_lt (by (with_reducible repeat (first | apply Kd.R_alloc | apply Kd.R_drewN | apply Kd.R_drew)); exact HO211.out)) k_ hk_))) (below_size (by repeat (first | (with_reducible first | exact HB.out | apply below_alloc | apply pw_below_drewN | apply below_drew1) | exact HB.out))))
                                  have n2_ := Aside0.mk (below_step (by repeat (first | (with_reducible first | exact HB.out | apply below_alloc | apply pw_below_drewN | apply below_drew1) | exact HB.out)) hb)
                                  clear HO211
                                  clear HB
                                  have HO211 := n0_
                                  have HO214 := n1_
                                  have HB := n2_
                                  clear n0_ n1_ n2_
                                  (try clear hb)
                                  (try clear hb2)
                                  (try clear hk)
                                  (try clear hi)
                                  (try clear ho0)
                                  refine hK.out _ _ trivial (fun hHeld => ?_)
                                  clear hK K
                                  refine norm_ (a' := ?_) ?_ ?_
                                  rotate_left
                                  · show Act.put _ (some 26) _ = _
                                    simp only [Act.put, List.setIfInBounds_toArray, List.set_cons_zero, List.set_cons_succ, i64_w, i32_w]
                                    rfl
                                  exact norm_ (by first | (simp only [putAll, Act.put, List.setIfInBounds_toArray, List.set_cons_zero, List.set_cons_succ]; done) | (simp only [putAll, Act.put, List.setIfInBounds_toArray, List.set_cons_zero, List.set_cons_succ]; rfl)) (hJ1_5 (v210, v213) _ ⟨(by (with_reducible repeat (first | apply Kd.R_alloc | apply Kd.R_drewN | apply Kd.R_drew)); exact HO211.out), (by (with_reducible repeat (first | apply Kd.V_alloc | apply Kd.V_drewN | apply Kd.V_drew)); exact HO214.out), (by repeat (first | (with_reducible first | exact HB.out | apply below_alloc | apply pw_below_drewN | apply below_drew1) | exact HB.out))⟩)
                            · skip
                              rintro v213 w26 ⟨h0_, h1_⟩
                              have n0_ : Aside0 (Kd.V (Kd.int .u8) 5 w26 w.heap.size (fun _ => True) v213 t212) := ⟨h0_⟩
                              have n1_ : Aside0 (Below w.heap.size w w26) := ⟨h1_⟩
                              clear HB
                              clear h0_ h1_
                              have HO214 := n0_
                              have HB := n1_
                              clear n0_ n1_
                              have hHeld := trivial
                              refine norm_ (a' := ?_) ?_ ?_
                              rotate_left
                              · simp only [putAll, Act.put, List.setIfInBounds_toArray, List.set_cons_zero, List.set_cons_succ]
                                rfl
                              refine one_ (i := 1) (N := some 22) #[true, true, false, false, true, true, true, false, false] rfl rfl (one_of HT_.out (by kernel_rfl)) (by decide) (fun K hK => ?_)
                              refine Kd.R_lit_step (Kd.int .u8) _ 5 ?hg (N := 22) ?hd (xs := ([a0] : List Int)) (inner := [.int .u8 a0]) (ok := fun _ => True) (okp := fun _ => True) ?hr ?hp (fun _ hk => hk) trivial (Below.refl _ _) (Nat.le_refl _) (by simp) ?_; (case hd => rfl); (case hg => rfl); (case hr => first | (go_simp; done) | (go_simp; rfl)); (case hp => exact (Reps.one (show Kd.M (Kd.int .u8) _ _ _ a0 [.int .u8 a0] from rfl) (Reps.none _ _)))
                              intro v210 w27 ho28 hb hg_ hnew_
                              clear hg_ hnew_
                              (first | rw [← Ny209.out] at ho28 | (simp only [Int.reduceToNat] at ho28; rw [← Ny209.out] at ho28))
                              have n0_ := Aside0.mk (Kd.V_elder' (by (with_reducible repeat (first | apply Kd.V_alloc | apply Kd.V_drewN | apply Kd.V_drew)); exact HO214.out) (Kd.R_base ho28) hb)
                              have n1_ := Aside0.mk (Kd.R_lower ho28 (below_size (by repeat (first | (with_reducible first | exact HB.out | apply below_alloc | apply pw_below_drewN | apply below_drew1) | exact HB.out))))
                              have n2_ := Aside0.mk (below_step (by repeat (first | (with_reducible first | exact HB.out | apply below_alloc | apply pw_below_drewN | apply below_drew1) | exact HB.out)) hb)
                              clear HO214
                              clear HB
                              have HO214 := n0_
                              have HO211 := n1_
                              have HB := n2_
                              clear n0_ n1_ n2_
                              clear hb ho28
                              refine hK.out _ _ trivial (fun hHeld => ?_)
                              clear hK K
                              refine norm_ (a' := ?_) ?_ ?_
                              rotate_left
                              · show Act.put _ (some 22) _ = _
                                simp only [Act.put, List.setIfInBounds_toArray, List.set_cons_zero, List.set_cons_succ, i64_w, i32_w]
                                rfl
                              exact norm_ (by first | (simp only [putAll, Act.put, List.setIfInBounds_toArray, List.set_cons_zero, List.set_cons_succ]; done) | (simp only [putAll, Act.put, List.setIfInBounds_toArray, List.set_cons_zero, List.set_cons_succ]; rfl)) (hJ1_5_6 (v210, v213) _ ⟨(by (with_reducible repeat (first | apply Kd.R_alloc | apply Kd.R_drewN | apply Kd.R_drew)); exact HO211.out), (by (with_reducible repeat (first | apply Kd.V_alloc | apply Kd.V_drewN | apply Kd.V_drew)); exact Kd.V_mono HO214.out (fun _ hk => hk.2)), (by repeat (first | (with_reducible first | exact HB.out | apply below_alloc | apply pw_below_drewN | apply below_drew1) | exact HB.out))⟩)
                          · skip
                            rintro ⟨v210, v213⟩ w26 ⟨h0_, h1_, h2_⟩
                            have n0_ : Aside0 (Kd.R (Kd.int .u8) 5 w26 w.heap.size (fun _ => True) v210 y209) := ⟨h0_⟩
                            have n1_ : Aside0 (Kd.V (Kd.int .u8) 5 w26 w.heap.size (fun k_ => some k_ ≠ (v210 : Value).ownBlock) v213 t212) := ⟨h1_⟩
                            have n2_ : Aside0 (Below w.heap.size w w26) := ⟨h2_⟩
                            clear HB
                            clear h0_ h1_ h2_
                            have HO211 := n0_
                            have HO214 := n1_
                            have HB := n2_
                            clear n0_ n1_ n2_
                            have hHeld := trivial
                            refine norm_ (a' := ?_) ?_ ?_
                            rotate_left
                            · simp only [putAll, Act.put, List.setIfInBounds_toArray, List.set_cons_zero, List.set_cons_succ]
                              rfl
                            refine two_ (i := 2) (j := 6) (Ni := some 23) (Nj := some 27) #[true, true, true, false, true, true, false, false, false] #[true, true, false, false, true, true, true, false, false] rfl rfl rfl rfl (two_of HT_.out (by kernel_rfl)) (by decide) (by decide) (fun K hK => ?_) (fun K hK => ?_)
                            · skip
                              have hcv27 := own_string (P := Tryd.prog) Tryd.underlying28 Tryd.underlying5 Tryd.underlying9 (Kd.own_of_R HO211.out)
                              refine value_ (w1 := ?_) (v := ?_) (by rfl) rfl ?_ ?_
                              rotate_left 2
                              · go_simp
                                constructor
                                · rfl
                                · rfl
                              clear hcv27
                              refine hK.out _ _ trivial (fun hHeld => ?_)
                              clear hK K
                              refine norm_ (a' := ?_) ?_ ?_
                              rotate_left
                              · show Act.put _ (some 23) _ = _
                                simp only [Act.put, List.setIfInBounds_toArray, List.set_cons_zero, List.set_cons_succ, i64_w, i32_w]
                                rfl
                              refine pure_ (i := 3) (N := some 24) (v := ?_) (a' := ?_) #[true, true, true, true, true, true, false, false, false] rfl rfl (any_of HT_.out (by kernel_rfl)) (fun _ _ _ h => h) (Or.inl ⟨by rfl, ?_⟩) ?_ ?_
                              rotate_left
                              · intro w'
                                go_simp
                                with_reducible rfl
                              rotate_left
                              · simp only [Act.put, List.setIfInBounds_toArray, List.set_cons_zero, List.set_cons_succ, i64_w, i32_w]
                                rfl
                              exact norm_ (by first | (simp only [putAll, Act.put, List.setIfInBounds_toArray, List.set_cons_zero, List.set_cons_succ]; done) | (simp only [putAll, Act.put, List.setIfInBounds_toArray, List.set_cons_zero, List.set_cons_succ]; rfl)) (hJ1_2_5 (v210, v213) _ ⟨(by (with_reducible repeat (first | apply Kd.R_alloc | apply Kd.R_drewN | apply Kd.R_drew)); exact HO211.out), (by (with_reducible repeat (first | apply Kd.V_alloc | apply Kd.V_drewN | apply Kd.V_drew)); exact HO214.out), (by repeat (first | (with_reducible first | exact HB.out | apply below_alloc | apply pw_below_drewN | apply below_drew1) | exact HB.out))⟩)
                            · skip
                              obtain ⟨Ao27, co27, eo27⟩ := Kd.V_slice HO214.out
                              subst eo27
                              refine goes_ Tryd.func11 (by kernel_rfl) rfl #[.slice Ao27 t212.length co27] (by rfl) rfl rfl (by (try simp only [List.map_toArray, List.map_cons, List.map_nil]); first | done | rfl | (simp only [List.length_drop, List.length_take]; rfl)) ?_
                              with_reducible refine (spec_Base64.calls _ _ t212 t215 _ ?side1 ?side2 A12.out).mono ?_
                              (case side1 => repeat (first | exact (Kd.V_reads' HO214.out).2.2 | (with_reducible refine Kd.C_alloc ?_ _) | (with_reducible refine Kd.C_drewN ?_ _) | (with_reducible refine Kd.C_drew ?_)))
                              (case side2 => exact (Kd.V_reads' HO214.out).2.1)
                              rintro e w28 ⟨rfl, hb⟩
                              refine ⟨_, rfl, ?_⟩
                              have n0_ := Aside0.mk (Kd.R_below (by (with_reducible repeat (first | apply Kd.R_alloc | apply Kd.R_drewN | apply Kd.R_drew)); exact HO211.out) hb)
                              have n1_ := Aside0.mk (Kd.V_below (by (with_reducible repeat (first | apply Kd.V_alloc | apply Kd.V_drewN | apply Kd.V_drew)); exact HO214.out) hb)
                              have n2_ := Aside0.mk (below_step (by repeat (first | (with_reducible first | exact HB.out | apply below_alloc | apply pw_below_drewN | apply below_drew1) | exact HB.out)) hb)
                              clear HO211
                              clear HO214
                              clear HB
                              have HO211 := n0_
                              have HO214 := n1_
                              have HB := n2_
                              clear n0_ n1_ n2_
                              (try clear hb)
                              (try clear hb2)
                              (try clear hk)
                              (try clear hi)
                              refine hK.out _ _ trivial (fun hHeld => ?_)
                              clear hK K
                              refine norm_ (a' := ?_) ?_ ?_
                              rotate_left
                              · show Act.put _ (some 27) _ = _
                                simp only [Act.put, List.setIfInBounds_toArray, List.set_cons_zero, List.set_cons_succ, i64_w, i32_w]
                                rfl
                              exact norm_ (by first | (simp only [putAll, Act.put, List.setIfInBounds_toArray, List.set_cons_zero, List.set_cons_succ]; done) | (simp only [putAll, Act.put, List.setIfInBounds_toArray, List.set_cons_zero, List.set_cons_succ]; rfl)) (hJ1_5_6 (v210, .slice Ao27 t212.length co27) _ ⟨(by (with_reducible repeat (first | apply Kd.R_alloc | apply Kd.R_drewN | apply Kd.R_drew)); exact HO211.out), (by (with_reducible repeat (first | apply Kd.V_alloc | apply Kd.V_drewN | apply Kd.V_drew)); exact HO214.out), (by repeat (first | (with_reducible first | exact HB.out | apply below_alloc | apply pw_below_drewN | apply below_drew1) | exact HB.out))⟩)
                        · skip
                          rintro v210 w26 ⟨h0_, h1_⟩
                          have n0_ : Aside0 (Kd.R (Kd.int .u8) 5 w26 w.heap.size (fun _ => True) v210 y209) := ⟨h0_⟩
                          have n1_ : Aside0 (Below w.heap.size w w26) := ⟨h1_⟩
                          clear HB
                          clear h0_ h1_
                          have HO211 := n0_
                          have HB := n1_
                          clear n0_ n1_
                          have hHeld := trivial
                          refine norm_ (a' := ?_) ?_ ?_
                          rotate_left
                          · simp only [putAll, Act.put, List.setIfInBounds_toArray, List.set_cons_zero, List.set_cons_succ]
                            rfl
                          refine one_ (i := 5) (N := some 26) #[true, true, true, true, true, true, false, false, false] rfl rfl (one_of HT_.out (by kernel_rfl)) (by decide) (fun K hK => ?_)
                          refine conv_step 9 28 5 rfl rfl Tryd.underlying9 Tryd.underlying28 Tryd.underlying5 a1 rfl A11.out ?_
                          rintro e w27 ⟨v213, rfl, ho0, hb⟩
                          refine ⟨_, rfl, ?_⟩
                          have n0_ := Aside0.mk (Kd.R_below (by (with_reducible repeat (first | apply Kd.R_alloc | apply Kd.R_drewN | apply Kd.R_drew)); exact HO211.out) hb)
                          have n1_ := Aside0.mk (Kd.V_lower (Kd.V_mono (ok' := fun k_ => some k_ ≠ (v210 : Value).ownBlock) ho0 (fun k_ hk_ => (Kd.fresh' (Kd.R_lt (by (with_reducible repeat (first | apply Kd.R_alloc | apply Kd.R_drewN | apply Kd.R_drew)); exact HO211.out)) k_ hk_))) (below_size (by repeat (first | (with_reducible first | exact HB.out | apply below_alloc | apply pw_below_drewN | apply below_drew1) | exact HB.out))))
                          have n2_ := Aside0.mk (below_step (by repeat (first | (with_reducible first | exact HB.out | apply below_alloc | apply pw_below_drewN | apply below_drew1) | exact HB.out)) hb)
                          clear HO211
                          clear HB
                          have HO211 := n0_
                          have HO214 := n1_
                          have HB := n2_
                          clear n0_ n1_ n2_
                          (try clear hb)
                          (try clear hb2)
                          (try clear hk)
                          (try clear hi)
                          (try clear ho0)
                          refine hK.out _ _ trivial (fun hHeld => ?_)
                          clear hK K
                          refine norm_ (a' := ?_) ?_ ?_
                          rotate_left
                          · show Act.put _ (some 26) _ = _
                            simp only [Act.put, List.setIfInBounds_toArray, List.set_cons_zero, List.set_cons_succ, i64_w, i32_w]
                            rfl
                          exact norm_ (by first | (simp only [putAll, Act.put, List.setIfInBounds_toArray, List.set_cons_zero, List.set_cons_succ]; done) | (simp only [putAll, Act.put, List.setIfInBounds_toArray, List.set_cons_zero, List.set_cons_succ]; rfl)) (hJ1_2_5 (v210, v213) _ ⟨(by (with_reducible repeat (first | apply Kd.R_alloc | apply Kd.R_drewN | apply Kd.R_drew)); exact HO211.out), (by (with_reducible repeat (first | apply Kd.V_alloc | apply Kd.V_drewN | apply Kd.V_drew)); exact HO214.out), (by repeat (first | (with_reducible first | exact HB.out | apply below_alloc | apply pw_below_drewN | apply below_drew1) | exact HB.out))⟩)
                      · skip
                        rintro ⟨v210, v213⟩ w28 ⟨h0_, h1_, h2_⟩
                        have n0_ : Aside0 (Kd.R (Kd.int .u8) 5 w28 w.heap.size (fun _ => True) v210 y209) := ⟨h0_⟩
                        have n1_ : Aside0 (Kd.V (Kd.int .u8) 5 w28 w.heap.size (fun k_ => some k_ ≠ (v210 : Value).ownBlock) v213 t212) := ⟨h1_⟩
                        have n2_ : Aside0 (Below w.heap.size w w28) := ⟨h2_⟩
                        clear HB
                        clear h0_ h1_ h2_
                        have HO211 := n0_
                        have HO214 := n1_
                        have HB := n2_
                        clear n0_ n1_ n2_
                        have hHeld := trivial
                        refine norm_ (a' := ?_) ?_ ?_
                        rotate_left
                        · simp only [putAll, Act.put, List.setIfInBounds_toArray, List.set_cons_zero, List.set_cons_succ]
                          rfl
                        refine one_ (i := 2) (N := some 23) #[true, true, true, false, true, true, true, false, false] rfl rfl (one_of HT_.out (by kernel_rfl)) (by decide) (fun K hK => ?_)
                        have hcv29 := own_string (P := Tryd.prog) Tryd.underlying28 Tryd.underlying5 Tryd.underlying9 (Kd.own_of_R HO211.out)
                        refine value_ (w1 := ?_) (v := ?_) (by rfl) rfl ?_ ?_
                        rotate_left 2
                        · go_simp
                          constructor
                          · rfl
                          · rfl
                        clear hcv29
                        refine hK.out _ _ trivial (fun hHeld => ?_)
                        clear hK K
                        refine norm_ (a' := ?_) ?_ ?_
                        rotate_left
                        · show Act.put _ (some 23) _ = _
                          simp only [Act.put, List.setIfInBounds_toArray, List.set_cons_zero, List.set_cons_succ, i64_w, i32_w]
                          rfl
                        refine pure_ (i := 3) (N := some 24) (v := ?_) (a' := ?_) #[true, true, true, true, true, true, true, false, false] rfl rfl (any_of HT_.out (by kernel_rfl)) (fun _ _ _ h => h) (Or.inl ⟨by rfl, ?_⟩) ?_ ?_
                        rotate_left
                        · intro w'
                          go_simp
                          with_reducible rfl
                        rotate_left
                        · simp only [Act.put, List.setIfInBounds_toArray, List.set_cons_zero, List.set_cons_succ, i64_w, i32_w]
                          rfl
                        exact norm_ (by first | (simp only [putAll, Act.put, List.setIfInBounds_toArray, List.set_cons_zero, List.set_cons_succ]; done) | (simp only [putAll, Act.put, List.setIfInBounds_toArray, List.set_cons_zero, List.set_cons_succ]; rfl)) (hJ1_2_5_6 (v210, v213) _ ⟨(by (with_reducible repeat (first | apply Kd.R_alloc | apply Kd.R_drewN | apply Kd.R_drew)); exact HO211.out), (by (with_reducible repeat (first | apply Kd.V_alloc | apply Kd.V_drewN | apply Kd.V_drew)); exact HO214.out), (by repeat (first | (with_reducible first | exact HB.out | apply below_alloc | apply pw_below_drewN | apply below_drew1) | exact HB.out))⟩)
                    · skip
                      rintro ⟨v210, v213⟩ w27 ⟨h0_, h1_, h2_⟩
                      have n0_ : Aside0 (Kd.R (Kd.int .u8) 5 w27 w.heap.size (fun _ => True) v210 y209) := ⟨h0_⟩
                      have n1_ : Aside0 (Kd.V (Kd.int .u8) 5 w27 w.heap.size (fun k_ => some k_ ≠ (v210 : Value).ownBlock) v213 t212) := ⟨h1_⟩
                      have n2_ : Aside0 (Below w.heap.size w w27) := ⟨h2_⟩
                      clear HB
                      clear h0_ h1_ h2_
                      have HO211 := n0_
                      have HO214 := n1_
                      have HB := n2_
                      clear n0_ n1_ n2_
                      have hHeld := trivial
                      obtain ⟨Ao28, co28, eo28⟩ := Kd.V_slice HO214.out
                      (first | subst eo28 | (injection eo28 with f1_ f2_ f3_; have f4_ := f1_.symm; have f5_ := f3_.symm; clear f1_ f2_ f3_; subst f4_; subst f5_))
                      refine norm_ (a' := ?_) ?_ ?_
                      rotate_left
                      · simp only [putAll, Act.put, List.setIfInBounds_toArray, List.set_cons_zero, List.set_cons_succ]
                        rfl
                      refine one_ (i := 6) (N := some 27) #[true, true, true, true, true, true, true, false, false] rfl rfl (one_of HT_.out (by kernel_rfl)) (by decide) (fun K hK => ?_)
                      refine goes_ Tryd.func11 (by kernel_rfl) rfl #[.slice Ao28 t212.length co28] (by rfl) rfl rfl (by (try simp only [List.map_toArray, List.map_cons, List.map_nil]); first | done | rfl | (simp only [List.length_drop, List.length_take]; rfl)) ?_
                      with_reducible refine (spec_Base64.calls _ _ t212 t215 _ ?side1 ?side2 A12.out).mono ?_
                      (case side1 => repeat (first | exact (Kd.V_reads' HO214.out).2.2 | (with_reducible refine Kd.C_alloc ?_ _) | (with_reducible refine Kd.C_drewN ?_ _) | (with_reducible refine Kd.C_drew ?_)))
                      (case side2 => exact (Kd.V_reads' HO214.out).2.1)
                      rintro e w29 ⟨rfl, hb⟩
                      refine ⟨_, rfl, ?_⟩
                      have n0_ := Aside0.mk (Kd.R_below (by (with_reducible repeat (first | apply Kd.R_alloc | apply Kd.R_drewN | apply Kd.R_drew)); exact HO211.out) hb)
                      have n1_ := Aside0.mk (Kd.V_below (by (with_reducible repeat (first | apply Kd.V_alloc | apply Kd.V_drewN | apply Kd.V_drew)); exact HO214.out) hb)
                      have n2_ := Aside0.mk (below_step (by repeat (first | (with_reducible first | exact HB.out | apply below_alloc | apply pw_below_drewN | apply below_drew1) | exact HB.out)) hb)
                      clear HO211
                      clear HO214
                      clear HB
                      have HO211 := n0_
                      have HO214 := n1_
                      have HB := n2_
                      clear n0_ n1_ n2_
                      (try clear hb)
                      (try clear hb2)
                      (try clear hk)
                      (try clear hi)
                      refine hK.out _ _ trivial (fun hHeld => ?_)
                      clear hK K
                      refine norm_ (a' := ?_) ?_ ?_
                      rotate_left
                      · show Act.put _ (some 27) _ = _
                        simp only [Act.put, List.setIfInBounds_toArray, List.set_cons_zero, List.set_cons_succ, i64_w, i32_w]
                        rfl
                      exact norm_ (by first | (simp only [putAll, Act.put, List.setIfInBounds_toArray, List.set_cons_zero, List.set_cons_succ]; done) | (simp only [putAll, Act.put, List.setIfInBounds_toArray, List.set_cons_zero, List.set_cons_succ]; rfl)) (hJ1_2_5_6 (v210, .slice Ao28 t212.length co28) _ ⟨(by (with_reducible repeat (first | apply Kd.R_alloc | apply Kd.R_drewN | apply Kd.R_drew)); exact HO211.out), (by (with_reducible repeat (first | apply Kd.V_alloc | apply Kd.V_drewN | apply Kd.V_drew)); exact HO214.out), (by repeat (first | (with_reducible first | exact HB.out | apply below_alloc | apply pw_below_drewN | apply below_drew1) | exact HB.out))⟩)
                  rintro ⟨v210, v213⟩ w29 ⟨h0_, h1_, h2_⟩
                  have n0_ : Aside0 (Kd.R (Kd.int .u8) 5 w29 w.heap.size (fun _ => True) v210 y209) := ⟨h0_⟩
                  have n1_ : Aside0 (Kd.V (Kd.int .u8) 5 w29 w.heap.size (fun k_ => some k_ ≠ (v210 : Value).ownBlock) v213 t212) := ⟨h1_⟩
                  have n2_ : Aside0 (Below w.heap.size w w29) := ⟨h2_⟩
                  clear HB
                  clear h0_ h1_ h2_
                  have HO211 := n0_
                  have HO214 := n1_
                  have HB := n2_
                  clear n0_ n1_ n2_
                  have hHeld := trivial
                  refine norm_ (a' := ?_) ?_ ?_
                  rotate_left
                  · simp only [putAll, Act.put, List.setIfInBounds_toArray, List.set_cons_zero, List.set_cons_succ]
                    rfl
                  refine pure_ (i := 7) (N := some 28) (v := ?_) (a' := ?_) #[true, true, true, true, true, true, true, true, false] rfl rfl (any_of HT_.out (by kernel_rfl)) (fun _ _ _ h => h) (Or.inl ⟨by rfl, ?_⟩) ?_ ?_
                  rotate_left
                  · intro w'
                    go_simp
                    with_reducible rfl
                  rotate_left
                  · simp only [Act.put, List.setIfInBounds_toArray, List.set_cons_zero, List.set_cons_succ, i64_w, i32_w]
                    rfl
                  refine pure_ (i := 8) (N := some 5) (v := ?_) (a' := ?_) #[true, true, true, true, true, true, true, true, true] rfl rfl (any_of HT_.out (by kernel_rfl)) (fun _ _ _ h => h) (Or.inl ⟨by rfl, ?_⟩) ?_ ?_
                  rotate_left
                  · intro w'
                    go_simp
                    with_reducible rfl
                  rotate_left
                  · simp only [Act.put, List.setIfInBounds_toArray, List.set_cons_zero, List.set_cons_succ, i64_w, i32_w]
                    rfl
                  refine done_ (done_of HT_.out (by kernel_rfl)) ?_
                  try go_wp2_with (first | ((with_reducible refine gate_callee (f := 14) rfl ?_); refine goesL_ (some 31) rfl rfl Tryd.func14 (by kernel_rfl) rfl #[.int .i64 0, .int .u8 a0, .string a1] rfl (by (try simp only [List.map_toArray, List.map_cons, List.map_nil]); first | done | rfl | (simp only [List.length_drop, List.length_take]; rfl)) ?_; (with_reducible refine (impl_MakeClipboard.calls kj3 0 a0 a1 t216 _ A14.out).mono ?_); rintro e w30 ⟨rfl, hb⟩; refine ⟨_, rfl, ?_⟩; have n0_ := Aside0.mk (Kd.R_below (by (with_reducible repeat (first | apply Kd.R_alloc | apply Kd.R_drewN | apply Kd.R_drew)); exact HO211.out) hb); have n1_ := Aside0.mk (Kd.V_below (by (with_reducible repeat (first | apply Kd.V_alloc | apply Kd.V_drewN | apply Kd.V_drew)); exact HO214.out) hb); have n2_ := Aside0.mk (below_step (by repeat (first | (with_reducible first | exact HB.out | apply below_alloc | apply pw_below_drewN | apply below_drew1) | exact HB.out)) hb); clear HO211; clear HO214; clear HB; have HO211 := n0_; have HO214 := n1_; have HB := n2_; clear n0_ n1_ n2_; (try clear hb); (try clear hb2); (try clear hk); (try clear hi)) | ((with_reducible refine gate_dst (N := 32) rfl ?_); (try (refine gate_guard (by rfl) ?_; dsimp only)); refine conv_ev 9 28 5 rfl rfl Tryd.underlying9 Tryd.underlying28 Tryd.underlying5 t216 rfl A15.out ?_; rintro e w31 ⟨v218, rfl, ho0, hb⟩; refine ⟨_, rfl, ?_⟩; have n0_ := Aside0.mk (Kd.R_below (by (with_reducible repeat (first | apply Kd.R_alloc | apply Kd.R_drewN | apply Kd.R_drew)); exact HO211.out) hb); have n1_ := Aside0.mk (Kd.V_below (by (with_reducible repeat (first | apply Kd.V_alloc | apply Kd.V_drewN | apply Kd.V_drew)); exact HO214.out) hb); have n2_ := Aside0.mk (Kd.V_lower (Kd.V_mono (ok' := fun k_ => some k_ ≠ (v210 : Value).ownBlock) ho0 (fun k_ hk_ => (Kd.fresh' (Kd.R_lt (by (with_reducible repeat (first | apply Kd.R_alloc | apply Kd.R_drewN | apply Kd.R_drew)); exact HO211.out)) k_ hk_))) (below_size (by repeat (first | (with_reducible first | exact HB.out | apply below_alloc | apply pw_below_drewN | apply below_drew1) | exact HB.out)))); have n3_ := Aside0.mk (below_step (by repeat (first | (with_reducible first | exact HB.out | apply below_alloc | apply pw_below_drewN | apply below_drew1) | exact HB.out)) hb); clear HO211; clear HO214; clear HB; have HO211 := n0_; have HO214 := n1_; have HO219 := n2_; have HB := n3_; clear n0_ n1_ n2_ n3_; (try clear hb); (try clear hb2); (try clear hk); (try clear hi); (try clear ho0); obtain ⟨Ao32, co32, eo32⟩ := Kd.V_slice HO219.out; subst eo32) | ((with_reducible refine gate_callee (f := 7) rfl ?_); refine goesL_ (some 33) rfl rfl Tryd.func7 (by kernel_rfl) rfl #[.int .i64 32, .int .i64 4096, .slice Ao32 t217.length co32] rfl (by (try simp only [List.map_toArray, List.map_cons, List.map_nil]); first | done | rfl | (simp only [List.length_drop, List.length_take]; rfl)) ?_; (with_reducible refine (impl_Feed.calls 32 4096 _ _ t217 t220 _ ?side1 ?side2 A16.out).mono ?_); (case side1 => repeat (first | exact (Kd.V_reads' HO219.out).2.2 | (with_reducible refine Kd.C_alloc ?_ _) | (with_reducible refine Kd.C_drewN ?_ _) | (with_reducible refine Kd.C_drew ?_))); (case side2 => exact (Kd.V_reads' HO219.out).2.1); rintro e w33 ⟨v221, rfl, ho0, hb⟩; refine ⟨_, rfl, ?_⟩; have n0_ := Aside0.mk (Kd.R_below (by (with_reducible repeat (first | apply Kd.R_alloc | apply Kd.R_drewN | apply Kd.R_drew)); exact HO211.out) hb); have n1_ := Aside0.mk (Kd.V_elder' (by (with_reducible repeat (first | apply Kd.V_alloc | apply Kd.V_drewN | apply Kd.V_drew)); exact HO214.out) (by first | exact Kd.N_base ho0 | exact Kd.S_base ho0) hb); have n2_ := Aside0.mk (Kd.V_elder' (by (with_reducible repeat (first | apply Kd.V_alloc | apply Kd.V_drewN | apply Kd.V_drew)); exact HO219.out) (by first | exact Kd.N_base ho0 | exact Kd.S_base ho0) hb); have n3_ := Aside0.mk (Kd.N_lower (Kd.N_mono (ok' := fun k_ => some k_ ≠ (v210 : Value).ownBlock) (Kd.S_N (Kd.S_bound ho0)) (fun k_ hk_ => (Kd.fresh' (Kd.R_lt (by (with_reducible repeat (first | apply Kd.R_alloc | apply Kd.R_drewN | apply Kd.R_drew)); exact HO211.out)) k_ hk_.2.1))) (below_size (by repeat (first | (with_reducible first | exact HB.out | apply below_alloc | apply pw_below_drewN | apply below_drew1) | exact HB.out)))); have n4_ := Aside0.mk (below_step (by repeat (first | (with_reducible first | exact HB.out | apply below_alloc | apply pw_below_drewN | apply below_drew1) | exact HB.out)) hb); clear HO211; clear HO214; clear HO219; clear HB; have HO211 := n0_; have HO214 := n1_; have HO219 := n2_; have HO222 := n3_; have HB := n4_; clear n0_ n1_ n2_ n3_ n4_; (try clear hb); (try clear hb2); (try clear hk); (try clear hi); (try clear ho0); obtain ⟨Ao34, co34, eo34⟩ := Kd.N_slice HO222.out; subst eo34) | ((with_reducible refine gate_callee (f := 13) rfl ?_); refine goesL_ (some 34) rfl rfl Tryd.func13 (by kernel_rfl) rfl #[.slice Ao34 t220.length co34] rfl (by (try simp only [List.map_toArray, List.map_cons, List.map_nil]); first | done | rfl | (simp only [List.length_drop, List.length_take]; rfl)) ?_; (with_reducible refine (laws_drawEvents.calls kj3 (fun k_ => some k_ ≠ (v210 : Value).ownBlock) _ _ t220 t223 _ ?side1 A17.out).mono ?_); (case side1 => exact Kd.N_V (HO222.out)); rintro e w35 ⟨v224, rfl, ho0, hb⟩; refine ⟨_, rfl, ?_⟩; have n0_ := Aside0.mk (Kd.R_below (by (with_reducible repeat (first | apply Kd.R_alloc | apply Kd.R_drewN | apply Kd.R_drew)); exact HO211.out) hb); have n1_ := Aside0.mk (Kd.V_elder' (by (with_reducible repeat (first | apply Kd.V_alloc | apply Kd.V_drewN | apply Kd.V_drew)); exact HO214.out) (by first | exact Kd.N_base ho0 | exact Kd.S_base ho0) hb); have n2_ := Aside0.mk (Kd.V_elder' (by (with_reducible repeat (first | apply Kd.V_alloc | apply Kd.V_drewN | apply Kd.V_drew)); exact HO219.out) (by first | exact Kd.N_base ho0 | exact Kd.S_base ho0) hb); have n3_ := Aside0.mk (Kd.N_elder' (by (with_reducible repeat (first | apply Kd.N_alloc | apply Kd.N_drewN | apply Kd.N_drew)); exact HO222.out) (by first | exact Kd.N_base ho0 | exact Kd.S_base ho0) hb); have n4_ := Aside0.mk (Kd.N_lower (Kd.N_mono (ok' := fun k_ => some k_ ≠ (v210 : Value).ownBlock) ho0 (fun k_ hk_ => Or.elim hk_ (fun hs_ => hs_) (fun hn_ => (Kd.fresh' (Kd.R_lt (by (with_reducible repeat (first | apply Kd.R_alloc | apply Kd.R_drewN | apply Kd.R_drew)); exact HO211.out)) k_ hn_)))) (below_size (by repeat (first | (with_reducible first | exact HB.out | apply below_alloc | apply pw_below_drewN | apply below_drew1) | exact HB.out)))); have n5_ := Aside0.mk (below_step (by repeat (first | (with_reducible first | exact HB.out | apply below_alloc | apply pw_below_drewN | apply below_drew1) | exact HB.out)) hb); clear HO211; clear HO214; clear HO219; clear HO222; clear HB; have HO211 := n0_; have HO214 := n1_; have HO219 := n2_; have HO222 := n3_; have HO225 := n4_; have HB := n5_; clear n0_ n1_ n2_ n3_ n4_ n5_; (try clear hb); (try clear hb2); (try clear hk); (try clear hi); (try clear ho0)) | ((with_reducible refine gate_dst (N := 35) rfl ?_); (try (refine gate_guard (by rfl) ?_; dsimp only)); refine Kd.R_lit (Kd.int .i64) _ 2 ?hg (N := 35) ?hd (xs := ([52] : List Int)) (inner := [.int .i64 52]) (ok := fun _ => True) (okp := fun _ => True) ?hr ?hp (fun _ hk => hk) trivial (Below.refl _ _) (Nat.le_refl _) (by simp) ?_; (case hd => rfl); (case hg => rfl); (case hr => first | (go_simp; done) | (go_simp; rfl)); (case hp => exact (Reps.one (show Kd.M (Kd.int .i64) _ _ _ 52 [.int .i64 52] from rfl) (Reps.none _ _))); intro v227 w36 ho37 hb hg_ hnew_; clear hg_ hnew_; (first | rw [← Ny226.out] at ho37 | (simp only [Int.reduceToNat] at ho37; rw [← Ny226.out] at ho37)); have n0_ := Aside0.mk (Kd.R_below (by (with_reducible repeat (first | apply Kd.R_alloc | apply Kd.R_drewN | apply Kd.R_drew)); exact HO211.out) hb); have n1_ := Aside0.mk (Kd.V_elder' (by (with_reducible repeat (first | apply Kd.V_alloc | apply Kd.V_drewN | apply Kd.V_drew)); exact HO214.out) (Kd.R_base ho37) hb); have n2_ := Aside0.mk (Kd.V_elder' (by (with_reducible repeat (first | apply Kd.V_alloc | apply Kd.V_drewN | apply Kd.V_drew)); exact HO219.out) (Kd.R_base ho37) hb); have n3_ := Aside0.mk (Kd.N_elder' (by (with_reducible repeat (first | apply Kd.N_alloc | apply Kd.N_drewN | apply Kd.N_drew)); exact HO222.out) (Kd.R_base ho37) hb); have n4_ := Aside0.mk (Kd.N_elder' (by (with_reducible repeat (first | apply Kd.N_alloc | apply Kd.N_drewN | apply Kd.N_drew)); exact HO225.out) (Kd.R_base ho37) hb); have n5_ := Aside0.mk (Kd.R_lower ho37 (below_size (by repeat (first | (with_reducible first | exact HB.out | apply below_alloc | apply pw_below_drewN | apply below_drew1) | exact HB.out)))); have n6_ := Aside0.mk (below_step (by repeat (first | (with_reducible first | exact HB.out | apply below_alloc | apply pw_below_drewN | apply below_drew1) | exact HB.out)) hb); clear HO211; clear HO214; clear HO219; clear HO222; clear HO225; clear HB; have HO211 := n0_; have HO214 := n1_; have HO219 := n2_; have HO222 := n3_; have HO225 := n4_; have HO228 := n5_; have HB := n6_; clear n0_ n1_ n2_ n3_ n4_ n5_ n6_; clear hb ho37; obtain ⟨Ao38, co38, eo38⟩ := Kd.N_slice HO225.out; subst eo38; obtain ⟨Ao39, co39, eo39⟩ := Kd.R_slice HO228.out; subst eo39) | ((with_reducible refine gate_callee (f := 12) rfl ?_); refine goesL_ (some 36) rfl rfl Tryd.func12 (by kernel_rfl) rfl #[.slice Ao38 t223.length co38, .slice Ao39 y226.length co39] rfl (by (try simp only [List.map_toArray, List.map_cons, List.map_nil]); first | done | rfl | (simp only [List.length_drop, List.length_take]; rfl)) ?_; (with_reducible refine (spec_DrawTold.calls kj3 _ _ t223 _ _ y226 t229 _ ?side1 ?side2 ?side3 ?side4 A18.out).mono ?_); (case side1 => repeat (first | exact (Kd.N_reads' HO225.out).2.2 | (with_reducible refine Kd.C_alloc ?_ _) | (with_reducible refine Kd.C_drewN ?_ _) | (with_reducible refine Kd.C_drew ?_))); (case side2 => exact (Kd.N_reads' HO225.out).2.1); (case side3 => repeat (first | exact (Kd.R_reads' HO228.out).2.2 | (with_reducible refine Kd.C_alloc ?_ _) | (with_reducible refine Kd.C_drewN ?_ _) | (with_reducible refine Kd.C_drew ?_))); (case side4 => exact (Kd.R_reads' HO228.out).2.1); rintro e w40 ⟨v230, rfl, ho0, hb⟩; refine ⟨_, rfl, ?_⟩; have n0_ := Aside0.mk (Kd.R_below (by (with_reducible repeat (first | apply Kd.R_alloc | apply Kd.R_drewN | apply Kd.R_drew)); exact HO211.out) hb); have n1_ := Aside0.mk (Kd.V_elder' (by (with_reducible repeat (first | apply Kd.V_alloc | apply Kd.V_drewN | apply Kd.V_drew)); exact HO214.out) (Kd.R_base ho0) hb); have n2_ := Aside0.mk (Kd.V_elder' (by (with_reducible repeat (first | apply Kd.V_alloc | apply Kd.V_drewN | apply Kd.V_drew)); exact HO219.out) (Kd.R_base ho0) hb); have n3_ := Aside0.mk (Kd.N_elder' (by (with_reducible repeat (first | apply Kd.N_alloc | apply Kd.N_drewN | apply Kd.N_drew)); exact HO222.out) (Kd.R_base ho0) hb); have n4_ := Aside0.mk (Kd.N_elder' (by (with_reducible repeat (first | apply Kd.N_alloc | apply Kd.N_drewN | apply Kd.N_drew)); exact HO225.out) (Kd.R_base ho0) hb); have n5_ := Aside0.mk (Kd.R_below (by (with_reducible repeat (first | apply Kd.R_alloc | apply Kd.R_drewN | apply Kd.R_drew)); exact HO228.out) hb); have n6_ := Aside0.mk (Kd.R_lower ho0 (below_size (by repeat (first | (with_reducible first | exact HB.out | apply below_alloc | apply pw_below_drewN | apply below_drew1) | exact HB.out)))); have n7_ := Aside0.mk (below_step (by repeat (first | (with_reducible first | exact HB.out | apply below_alloc | apply pw_below_drewN | apply below_drew1) | exact HB.out)) hb); clear HO211; clear HO214; clear HO219; clear HO222; clear HO225; clear HO228; clear HB; have HO211 := n0_; have HO214 := n1_; have HO219 := n2_; have HO222 := n3_; have HO225 := n4_; have HO228 := n5_; have HO231 := n6_; have HB := n7_; clear n0_ n1_ n2_ n3_ n4_ n5_ n6_ n7_; (try clear hb); (try clear hb2); (try clear hk); (try clear hi); (try clear ho0); obtain ⟨Ao41, co41, eo41⟩ := Kd.R_slice HO231.out; subst eo41; have p232 : 0 ≤ (0 : Int) := (by omega); have q232 : 0 < (t229.length : Int) := of_decide_eq_true (by first | (with_reducible assumption) | assumption); obtain ⟨ad232, e232, hx232_0⟩ := Kd.at_string (Kd.R_reads' HO231.out).2.2 0 p232 q232; cases e232; have qi232 : (0 < t229.length) = True := eq_true (by omega); (try rw [show ((0 : Int)).toNat = 0 from rfl] at hx232_0); (try rw [Addr.add_zero'] at hx232_0); replace p232 := eq_true p232; replace q232 := eq_true q232) | (go_at_call 5; (with_reducible refine (laws_drawAwake.calls  t233 _ ?side1 A21.out).mono ?_); (case side1 => exact XTab.below HT.out (by repeat (first | (with_reducible first | exact HB.out | apply below_alloc | apply pw_below_drewN | apply below_drew1) | exact HB.out))); rintro e w42 ⟨rfl, hb⟩; have n0_ := Aside0.mk (Kd.R_below (by (with_reducible repeat (first | apply Kd.R_alloc | apply Kd.R_drewN | apply Kd.R_drew)); exact HO211.out) hb); have n1_ := Aside0.mk (Kd.V_below (by (with_reducible repeat (first | apply Kd.V_alloc | apply Kd.V_drewN | apply Kd.V_drew)); exact HO214.out) hb); have n2_ := Aside0.mk (Kd.V_below (by (with_reducible repeat (first | apply Kd.V_alloc | apply Kd.V_drewN | apply Kd.V_drew)); exact HO219.out) hb); have n3_ := Aside0.mk (Kd.N_below (by (with_reducible repeat (first | apply Kd.N_alloc | apply Kd.N_drewN | apply Kd.N_drew)); exact HO222.out) hb); have n4_ := Aside0.mk (Kd.N_below (by (with_reducible repeat (first | apply Kd.N_alloc | apply Kd.N_drewN | apply Kd.N_drew)); exact HO225.out) hb); have n5_ := Aside0.mk (Kd.R_below (by (with_reducible repeat (first | apply Kd.R_alloc | apply Kd.R_drewN | apply Kd.R_drew)); exact HO228.out) hb); have n6_ := Aside0.mk (Kd.R_below (by (with_reducible repeat (first | apply Kd.R_alloc | apply Kd.R_drewN | apply Kd.R_drew)); exact HO231.out) hb); have n7_ := Aside0.mk (below_step (by repeat (first | (with_reducible first | exact HB.out | apply below_alloc | apply pw_below_drewN | apply below_drew1) | exact HB.out)) hb); clear HO211; clear HO214; clear HO219; clear HO222; clear HO225; clear HO228; clear HO231; clear HB; have HO211 := n0_; have HO214 := n1_; have HO219 := n2_; have HO222 := n3_; have HO225 := n4_; have HO228 := n5_; have HO231 := n6_; have HB := n7_; clear n0_ n1_ n2_ n3_ n4_ n5_ n6_ n7_; (try clear hb); (try clear hb2); (try clear hk); (try clear hi)))
                  go_ret
                  exact ⟨by first | rfl | (simp [errW_none, errW_some] <;> rfl) | (simp [*, errW_none, errW_some] <;> rfl), by repeat (first | (with_reducible first | exact HB.out | apply below_alloc | apply pw_below_drewN | apply below_drew1) | exact HB.out)⟩
                · rw [if_neg c20] at H
                  have c20b0 : ((rdOf ByteArray.empty t229 0).toList == (((strOfNums y209) ++ (⟨#[59]⟩ : ByteArray)) ++ t215).toList) = false := beq_eq_false_iff_ne.mpr c20
                  have c20b1 : ((rdOf ByteArray.empty t229 0).toList != (((strOfNums y209) ++ (⟨#[59]⟩ : ByteArray)) ++ t215).toList) = true := bne_iff_ne.mpr c20
                  obtain rfl := Option.some.inj H
                  try go_wp2
                  have n0_ := Aside0.mk (below_drew1 HB.out)
                  clear HB
                  have HB := n0_
                  clear n0_
                  refine start_ (n := 9) (S := fun w' => True) (ds := []) #[false, false, false, false, false, false, false, false, false] (by kernel_rfl) rfl rfl trivial (fun hHeld => ?_); refine with_tabW laws_FnDrawClipboard.tab5 laws_FnDrawClipboard.bits5 (fun HT_ HW_ => ?_)
                  generalize wc.drew = w43 at HB hHeld ⊢
                  refine pure_ (i := 0) (N := some 21) (v := ?_) (a' := ?_) #[true, false, false, false, false, false, false, false, false] rfl rfl (any_of HT_.out (by kernel_rfl)) (fun _ _ _ h => h) (Or.inl ⟨by rfl, ?_⟩) ?_ ?_
                  rotate_left
                  · intro w'
                    go_simp
                    with_reducible rfl
                  rotate_left
                  · simp only [Act.put, List.setIfInBounds_toArray, List.set_cons_zero, List.set_cons_succ, i64_w, i32_w]
                    rfl
                  refine pure_ (i := 4) (N := some 25) (v := ?_) (a' := ?_) #[true, false, false, false, true, false, false, false, false] rfl rfl (any_of HT_.out (by kernel_rfl)) (fun _ _ _ h => h) (Or.inl ⟨by rfl, ?_⟩) ?_ ?_
                  rotate_left
                  · intro w'
                    go_simp
                    with_reducible rfl
                  rotate_left
                  · simp only [Act.put, List.setIfInBounds_toArray, List.set_cons_zero, List.set_cons_succ, i64_w, i32_w]
                    rfl
                  refine join_ (σ := Value × Value) 2 #[true, true, true, true, true, true, true, false, false] (fun s_ => [(22, s_.1), (23, .string (strOfNums y209)), (26, s_.2), (27, .string t215), (24, .string ((strOfNums y209) ++ (⟨#[59]⟩ : ByteArray)))]) (fun s_ w' => (Kd.R (Kd.int .u8) 5 w' w.heap.size (fun _ => True) s_.1 y209) ∧ (Kd.V (Kd.int .u8) 5 w' w.heap.size (fun k_ => some k_ ≠ (s_.1 : Value).ownBlock) s_.2 t212) ∧ (Below w.heap.size w w')) ?_ ?_
                  rotate_left
                  · intro hJ1_2_5_6
                    refine join_ (σ := Value × Value) 3 #[true, true, true, true, true, true, false, false, false] (fun s_ => [(22, s_.1), (23, .string (strOfNums y209)), (26, s_.2), (24, .string ((strOfNums y209) ++ (⟨#[59]⟩ : ByteArray)))]) (fun s_ w' => (Kd.R (Kd.int .u8) 5 w' w.heap.size (fun _ => True) s_.1 y209) ∧ (Kd.V (Kd.int .u8) 5 w' w.heap.size (fun k_ => some k_ ≠ (s_.1 : Value).ownBlock) s_.2 t212) ∧ (Below w.heap.size w w')) ?_ ?_
                    rotate_left
                    · intro hJ1_2_5
                      refine join_ (σ := Value × Value) 4 #[true, true, false, false, true, true, true, false, false] (fun s_ => [(22, s_.1), (26, s_.2), (27, .string t215)]) (fun s_ w' => (Kd.R (Kd.int .u8) 5 w' w.heap.size (fun _ => True) s_.1 y209) ∧ (Kd.V (Kd.int .u8) 5 w' w.heap.size (fun k_ => some k_ ≠ (s_.1 : Value).ownBlock) s_.2 t212) ∧ (Below w.heap.size w w')) ?_ ?_
                      rotate_left
                      · intro hJ1_5_6
                        refine join_ (σ := Value) 4 #[true, true, true, true, true, false, false, false, false] (fun s_ => [(22, s_), (23, .string (strOfNums y209)), (24, .string ((strOfNums y209) ++ (⟨#[59]⟩ : ByteArray)))]) (fun s_ w' => (Kd.R (Kd.int .u8) 5 w' w.heap.size (fun _ => True) s_ y209) ∧ (Below w.heap.size w w')) ?_ ?_
                        rotate_left
                        · intro hJ1_2
                          refine join_ (σ := Value × Value) 5 #[true, true, false, false, true, true, false, false, false] (fun s_ => [(22, s_.1), (26, s_.2)]) (fun s_ w' => (Kd.R (Kd.int .u8) 5 w' w.heap.size (fun _ => True) s_.1 y209) ∧ (Kd.V (Kd.int .u8) 5 w' w.heap.size (fun k_ => some k_ ≠ (s_.1 : Value).ownBlock) s_.2 t212) ∧ (Below w.heap.size w w')) ?_ ?_
                          rotate_left
                          · intro hJ1_5
                            refine join_ (σ := Value) 5 #[true, false, false, false, true, true, true, false, false] (fun s_ => [(26, s_), (27, .string t215)]) (fun s_ w' => (Kd.V (Kd.int .u8) 5 w' w.heap.size (fun _ => True) s_ t212) ∧ (Below w.heap.size w w')) ?_ ?_
                            rotate_left
                            · intro hJ5_6
                              refine join_ (σ := Value) 6 #[true, true, false, false, true, false, false, false, false] (fun s_ => [(22, s_)]) (fun s_ w' => (Kd.R (Kd.int .u8) 5 w' w.heap.size (fun _ => True) s_ y209) ∧ (Below w.heap.size w w')) ?_ ?_
                              rotate_left
                              · intro hJ1
                                refine join_ (σ := Value) 6 #[true, false, false, false, true, true, false, false, false] (fun s_ => [(26, s_)]) (fun s_ w' => (Kd.V (Kd.int .u8) 5 w' w.heap.size (fun _ => True) s_ t212) ∧ (Below w.heap.size w w')) ?_ ?_
                                rotate_left
                                · intro hJ5
                                  refine two_ (i := 1) (j := 5) (Ni := some 22) (Nj := some 26) #[true, true, false, false, true, false, false, false, false] #[true, false, false, false, true, true, false, false, false] rfl rfl rfl rfl (two_of HT_.out (by kernel_rfl)) (by decide) (by decide) (fun K hK => ?_) (fun K hK => ?_)
                                  · skip
                                    refine Kd.R_lit_step (Kd.int .u8) _ 5 ?hg (N := 22) ?hd (xs := ([a0] : List Int)) (inner := [.int .u8 a0]) (ok := fun _ => True) (okp := fun _ => True) ?hr ?hp (fun _ hk => hk) trivial (Below.refl _ _) (Nat.le_refl _) (by simp) ?_; (case hd => rfl); (case hg => rfl); (case hr => first | (go_simp; done) | (go_simp; rfl)); (case hp => exact (Reps.one (show Kd.M (Kd.int .u8) _ _ _ a0 [.int .u8 a0] from rfl) (Reps.none _ _)))
                                    intro v210 w44 ho45 hb hg_ hnew_
                                    clear hg_ hnew_
                                    (first | rw [← Ny209.out] at ho45 | (simp only [Int.reduceToNat] at ho45; rw [← Ny209.out] at ho45))
                                    have n0_ := Aside0.mk (Kd.R_lower ho45 (below_size (by repeat (first | (with_reducible first | exact HB.out | apply below_alloc | apply pw_below_drewN | apply below_drew1) | exact HB.out))))
                                    have n1_ := Aside0.mk (below_step (by repeat (first | (with_reducible first | exact HB.out | apply below_alloc | apply pw_below_drewN | apply below_drew1) | exact HB.out)) hb)
                                    clear HB
                                    have HO211 := n0_
                                    have HB := n1_
                                    clear n0_ n1_
                                    clear hb ho45
                                    refine hK.out _ _ trivial (fun hHeld => ?_)
                                    clear hK K
                                    refine norm_ (a' := ?_) ?_ ?_
                                    rotate_left
                                    · show Act.put _ (some 22) _ = _
                                      simp only [Act.put, List.setIfInBounds_toArray, List.set_cons_zero, List.set_cons_succ, i64_w, i32_w]
                                      rfl
                                    exact norm_ (by first | (simp only [putAll, Act.put, List.setIfInBounds_toArray, List.set_cons_zero, List.set_cons_succ]; done) | (simp only [putAll, Act.put, List.setIfInBounds_toArray, List.set_cons_zero, List.set_cons_succ]; rfl)) (hJ1 (v210) _ ⟨(by (with_reducible repeat (first | apply Kd.R_alloc | apply Kd.R_drewN | apply Kd.R_drew)); exact HO211.out), (by repeat (first | (with_reducible first | exact HB.out | apply below_alloc | apply pw_below_drewN | apply below_drew1) | exact HB.out))⟩)
                                  · skip
                                    refine conv_step 9 28 5 rfl rfl Tryd.underlying9 Tryd.underlying28 Tryd.underlying5 a1 rfl A11.out ?_
                                    rintro e w44 ⟨v213, rfl, ho0, hb⟩
                                    refine ⟨_, rfl, ?_⟩
                                    have n0_ := Aside0.mk (Kd.V_lower (Kd.V_mono (ok' := fun k_ => True) ho0 (fun k_ hk_ => trivial)) (below_size (by repeat (first | (with_reducible first | exact HB.out | apply below_alloc | apply pw_below_drewN | apply below_drew1) | exact HB.out))))
                                    have n1_ := Aside0.mk (below_step (by repeat (first | (with_reducible first | exact HB.out | apply below_alloc | apply pw_below_drewN | apply below_drew1) | exact HB.out)) hb)
                                    clear HB
                                    have HO214 := n0_
                                    have HB := n1_
                                    clear n0_ n1_
                                    (try clear hb)
                                    (try clear hb2)
                                    (try clear hk)
                                    (try clear hi)
                                    (try clear ho0)
                                    refine hK.out _ _ trivial (fun hHeld => ?_)
                                    clear hK K
                                    refine norm_ (a' := ?_) ?_ ?_
                                    rotate_left
                                    · show Act.put _ (some 26) _ = _
                                      simp only [Act.put, List.setIfInBounds_toArray, List.set_cons_zero, List.set_cons_succ, i64_w, i32_w]
                                      rfl
                                    exact norm_ (by first | (simp only [putAll, Act.put, List.setIfInBounds_toArray, List.set_cons_zero, List.set_cons_succ]; done) | (simp only [putAll, Act.put, List.setIfInBounds_toArray, List.set_cons_zero, List.set_cons_succ]; rfl)) (hJ5 (v213) _ ⟨(by (with_reducible repeat (first | apply Kd.V_alloc | apply Kd.V_drewN | apply Kd.V_drew)); exact HO214.out), (by repeat (first | (with_reducible first | exact HB.out | apply below_alloc | apply pw_below_drewN | apply below_drew1) | exact HB.out))⟩)
                                · skip
                                  rintro v213 w45 ⟨h0_, h1_⟩
                                  have n0_ : Aside0 (Kd.V (Kd.int .u8) 5 w45 w.heap.size (fun _ => True) v213 t212) := ⟨h0_⟩
                                  have n1_ : Aside0 (Below w.heap.size w w45) := ⟨h1_⟩
                                  clear HB
                                  clear h0_ h1_
                                  have HO214 := n0_
                                  have HB := n1_
                                  clear n0_ n1_
                                  have hHeld := trivial
                                  refine norm_ (a' := ?_) ?_ ?_
                                  rotate_left
                                  · simp only [putAll, Act.put, List.setIfInBounds_toArray, List.set_cons_zero, List.set_cons_succ]
                                    rfl
                                  refine two_ (i := 1) (j := 6) (Ni := some 22) (Nj := some 27) #[true, true, false, false, true, true, false, false, false] #[true, false, false, false, true, true, true, false, false] rfl rfl rfl rfl (two_of HT_.out (by kernel_rfl)) (by decide) (by decide) (fun K hK => ?_) (fun K hK => ?_)
                                  · skip
                                    refine Kd.R_lit_step (Kd.int .u8) _ 5 ?hg (N := 22) ?hd (xs := ([a0] : List Int)) (inner := [.int .u8 a0]) (ok := fun _ => True) (okp := fun _ => True) ?hr ?hp (fun _ hk => hk) trivial (Below.refl _ _) (Nat.le_refl _) (by simp) ?_; (case hd => rfl); (case hg => rfl); (case hr => first | (go_simp; done) | (go_simp; rfl)); (case hp => exact (Reps.one (show Kd.M (Kd.int .u8) _ _ _ a0 [.int .u8 a0] from rfl) (Reps.none _ _)))
                                    intro v210 w46 ho47 hb hg_ hnew_
                                    clear hg_ hnew_
                                    (first | rw [← Ny209.out] at ho47 | (simp only [Int.reduceToNat] at ho47; rw [← Ny209.out] at ho47))
                                    have n0_ := Aside0.mk (Kd.V_elder' (by (with_reducible repeat (first | apply Kd.V_alloc | apply Kd.V_drewN | apply Kd.V_drew)); exact HO214.out) (Kd.R_base ho47) hb)
                                    have n1_ := Aside0.mk (Kd.R_lower ho47 (below_size (by repeat (first | (with_reducible first | exact HB.out | apply below_alloc | apply pw_below_drewN | apply below_drew1) | exact HB.out))))
                                    have n2_ := Aside0.mk (below_step (by repeat (first | (with_reducible first | exact HB.out | apply below_alloc | apply pw_below_drewN | apply below_drew1) | exact HB.out)) hb)
                                    clear HO214
                                    clear HB
                                    have HO214 := n0_
                                    have HO211 := n1_
                                    have HB := n2_
                                    clear n0_ n1_ n2_
                                    clear hb ho47
                                    refine hK.out _ _ trivial (fun hHeld => ?_)
                                    clear hK K
                                    refine norm_ (a' := ?_) ?_ ?_
                                    rotate_left
                                    · show Act.put _ (some 22) _ = _
                                      simp only [Act.put, List.setIfInBounds_toArray, List.set_cons_zero, List.set_cons_succ, i64_w, i32_w]
                                      rfl
                                    exact norm_ (by first | (simp only [putAll, Act.put, List.setIfInBounds_toArray, List.set_cons_zero, List.set_cons_succ]; done) | (simp only [putAll, Act.put, List.setIfInBounds_toArray, List.set_cons_zero, List.set_cons_succ]; rfl)) (hJ1_5 (v210, v213) _ ⟨(by (with_reducible repeat (first | apply Kd.R_alloc | apply Kd.R_drewN | apply Kd.R_drew)); exact HO211.out), (by (with_reducible repeat (first | apply Kd.V_alloc | apply Kd.V_drewN | apply Kd.V_drew)); exact Kd.V_mono HO214.out (fun _ hk => hk.2)), (by repeat (first | (with_reducible first | exact HB.out | apply below_alloc | apply pw_below_drewN | apply below_drew1) | exact HB.out))⟩)
                                  · skip
                                    obtain ⟨Ao46, co46, eo46⟩ := Kd.V_slice HO214.out
                                    subst eo46
                                    refine goes_ Tryd.func11 (by kernel_rfl) rfl #[.slice Ao46 t212.length co46] (by rfl) rfl rfl (by (try simp only [List.map_toArray, List.map_cons, List.map_nil]); first | done | rfl | (simp only [List.length_drop, List.length_take]; rfl)) ?_
                                    with_reducible refine (spec_Base64.calls _ _ t212 t215 _ ?side1 ?side2 A12.out).mono ?_
                                    (case side1 => repeat (first | exact (Kd.V_reads' HO214.out).2.2 | (with_reducible refine Kd.C_alloc ?_ _) | (with_reducible refine Kd.C_drewN ?_ _) | (with_reducible refine Kd.C_drew ?_)))
                                    (case side2 => exact (Kd.V_reads' HO214.out).2.1)
                                    rintro e w47 ⟨rfl, hb⟩
                                    refine ⟨_, rfl, ?_⟩
                                    have n0_ := Aside0.mk (Kd.V_below (by (with_reducible repeat (first | apply Kd.V_alloc | apply Kd.V_drewN | apply Kd.V_drew)); exact HO214.out) hb)
                                    have n1_ := Aside0.mk (below_step (by repeat (first | (with_reducible first | exact HB.out | apply below_alloc | apply pw_below_drewN | apply below_drew1) | exact HB.out)) hb)
                                    clear HO214
                                    clear HB
                                    have HO214 := n0_
                                    have HB := n1_
                                    clear n0_ n1_
                                    (try clear hb)
                                    (try clear hb2)
                                    (try clear hk)
                                    (try clear hi)
                                    refine hK.out _ _ trivial (fun hHeld => ?_)
                                    clear hK K
                                    refine norm_ (a' := ?_) ?_ ?_
                                    rotate_left
                                    · show Act.put _ (some 27) _ = _
                                      simp only [Act.put, List.setIfInBounds_toArray, List.set_cons_zero, List.set_cons_succ, i64_w, i32_w]
                                      rfl
                                    exact norm_ (by first | (simp only [putAll, Act.put, List.setIfInBounds_toArray, List.set_cons_zero, List.set_cons_succ]; done) | (simp only [putAll, Act.put, List.setIfInBounds_toArray, List.set_cons_zero, List.set_cons_succ]; rfl)) (hJ5_6 (.slice Ao46 t212.length co46) _ ⟨(by (with_reducible repeat (first | apply Kd.V_alloc | apply Kd.V_drewN | apply Kd.V_drew)); exact HO214.out), (by repeat (first | (with_reducible first | exact HB.out | apply below_alloc | apply pw_below_drewN | apply below_drew1) | exact HB.out))⟩)
                              · skip
                                rintro v210 w46 ⟨h0_, h1_⟩
                                have n0_ : Aside0 (Kd.R (Kd.int .u8) 5 w46 w.heap.size (fun _ => True) v210 y209) := ⟨h0_⟩
                                have n1_ : Aside0 (Below w.heap.size w w46) := ⟨h1_⟩
                                clear HB
                                clear h0_ h1_
                                have HO211 := n0_
                                have HB := n1_
                                clear n0_ n1_
                                have hHeld := trivial
                                refine norm_ (a' := ?_) ?_ ?_
                                rotate_left
                                · simp only [putAll, Act.put, List.setIfInBounds_toArray, List.set_cons_zero, List.set_cons_succ]
                                  rfl
                                refine two_ (i := 2) (j := 5) (Ni := some 23) (Nj := some 26) #[true, true, true, false, true, false, false, false, false] #[true, true, false, false, true, true, false, false, false] rfl rfl rfl rfl (two_of HT_.out (by kernel_rfl)) (by decide) (by decide) (fun K hK => ?_) (fun K hK => ?_)
                                · skip
                                  have hcv47 := own_string (P := Tryd.prog) Tryd.underlying28 Tryd.underlying5 Tryd.underlying9 (Kd.own_of_R HO211.out)
                                  refine value_ (w1 := ?_) (v := ?_) (by rfl) rfl ?_ ?_
                                  rotate_left 2
                                  · go_simp
                                    constructor
                                    · rfl
                                    · rfl
                                  clear hcv47
                                  refine hK.out _ _ trivial (fun hHeld => ?_)
                                  clear hK K
                                  refine norm_ (a' := ?_) ?_ ?_
                                  rotate_left
                                  · show Act.put _ (some 23) _ = _
                                    simp only [Act.put, List.setIfInBounds_toArray, List.set_cons_zero, List.set_cons_succ, i64_w, i32_w]
                                    rfl
                                  refine pure_ (i := 3) (N := some 24) (v := ?_) (a' := ?_) #[true, true, true, true, true, false, false, false, false] rfl rfl (any_of HT_.out (by kernel_rfl)) (fun _ _ _ h => h) (Or.inl ⟨by rfl, ?_⟩) ?_ ?_
                                  rotate_left
                                  · intro w'
                                    go_simp
                                    with_reducible rfl
                                  rotate_left
                                  · simp only [Act.put, List.setIfInBounds_toArray, List.set_cons_zero, List.set_cons_succ, i64_w, i32_w]
                                    rfl
                                  exact norm_ (by first | (simp only [putAll, Act.put, List.setIfInBounds_toArray, List.set_cons_zero, List.set_cons_succ]; done) | (simp only [putAll, Act.put, List.setIfInBounds_toArray, List.set_cons_zero, List.set_cons_succ]; rfl)) (hJ1_2 (v210) _ ⟨(by (with_reducible repeat (first | apply Kd.R_alloc | apply Kd.R_drewN | apply Kd.R_drew)); exact HO211.out), (by repeat (first | (with_reducible first | exact HB.out | apply below_alloc | apply pw_below_drewN | apply below_drew1) | exact HB.out))⟩)
                                · skip
                                  refine conv_step 9 28 5 rfl rfl Tryd.underlying9 Tryd.underlying28 Tryd.underlying5 a1 rfl A11.out ?_
                                  rintro e w47 ⟨v213, rfl, ho0, hb⟩
                                  refine ⟨_, rfl, ?_⟩
                                  have n0_ := Aside0.mk (Kd.R_below (by (with_reducible repeat (first | apply Kd.R_alloc | apply Kd.R_drewN | apply Kd.R_drew)); exact HO211.out) hb)
                                  have n1_ := Aside0.mk (Kd.V_lower (Kd.V_mono (ok' := fun k_ => some k_ ≠ (v210 : Value).ownBlock) ho0 (fun k_ hk_ => (Kd.fresh' (Kd.R_lt (by (with_reducible repeat (first | apply Kd.R_alloc | apply Kd.R_drewN | apply Kd.R_drew)); exact HO211.out)) k_ hk_))) (below_size (by repeat (first | (with_reducible first | exact HB.out | apply below_alloc | apply pw_below_drewN | apply below_drew1) | exact HB.out))))
                                  have n2_ := Aside0.mk (below_step (by repeat (first | (with_reducible first | exact HB.out | apply below_alloc | apply pw_below_drewN | apply below_drew1) | exact HB.out)) hb)
                                  clear HO211
                                  clear HB
                                  have HO211 := n0_
                                  have HO214 := n1_
                                  have HB := n2_
                                  clear n0_ n1_ n2_
                                  (try clear hb)
                                  (try clear hb2)
                                  (try clear hk)
                                  (try clear hi)
                                  (try clear ho0)
                                  refine hK.out _ _ trivial (fun hHeld => ?_)
                                  clear hK K
                                  refine norm_ (a' := ?_) ?_ ?_
                                  rotate_left
                                  · show Act.put _ (some 26) _ = _
                                    simp only [Act.put, List.setIfInBounds_toArray, List.set_cons_zero, List.set_cons_succ, i64_w, i32_w]
                                    rfl
                                  exact norm_ (by first | (simp only [putAll, Act.put, List.setIfInBounds_toArray, List.set_cons_zero, List.set_cons_succ]; done) | (simp only [putAll, Act.put, List.setIfInBounds_toArray, List.set_cons_zero, List.set_cons_succ]; rfl)) (hJ1_5 (v210, v213) _ ⟨(by (with_reducible repeat (first | apply Kd.R_alloc | apply Kd.R_drewN | apply Kd.R_drew)); exact HO211.out), (by (with_reducible repeat (first | apply Kd.V_alloc | apply Kd.V_drewN | apply Kd.V_drew)); exact HO214.out), (by repeat (first | (with_reducible first | exact HB.out | apply below_alloc | apply pw_below_drewN | apply below_drew1) | exact HB.out))⟩)
                            · skip
                              rintro v213 w47 ⟨h0_, h1_⟩
                              have n0_ : Aside0 (Kd.V (Kd.int .u8) 5 w47 w.heap.size (fun _ => True) v213 t212) := ⟨h0_⟩
                              have n1_ : Aside0 (Below w.heap.size w w47) := ⟨h1_⟩
                              clear HB
                              clear h0_ h1_
                              have HO214 := n0_
                              have HB := n1_
                              clear n0_ n1_
                              have hHeld := trivial
                              refine norm_ (a' := ?_) ?_ ?_
                              rotate_left
                              · simp only [putAll, Act.put, List.setIfInBounds_toArray, List.set_cons_zero, List.set_cons_succ]
                                rfl
                              refine one_ (i := 1) (N := some 22) #[true, true, false, false, true, true, true, false, false] rfl rfl (one_of HT_.out (by kernel_rfl)) (by decide) (fun K hK => ?_)
                              refine Kd.R_lit_step (Kd.int .u8) _ 5 ?hg (N := 22) ?hd (xs := ([a0] : List Int)) (inner := [.int .u8 a0]) (ok := fun _ => True) (okp := fun _ => True) ?hr ?hp (fun _ hk => hk) trivial (Below.refl _ _) (Nat.le_refl _) (by simp) ?_; (case hd => rfl); (case hg => rfl); (case hr => first | (go_simp; done) | (go_simp; rfl)); (case hp => exact (Reps.one (show Kd.M (Kd.int .u8) _ _ _ a0 [.int .u8 a0] from rfl) (Reps.none _ _)))
                              intro v210 w48 ho49 hb hg_ hnew_
                              clear hg_ hnew_
                              (first | rw [← Ny209.out] at ho49 | (simp only [Int.reduceToNat] at ho49; rw [← Ny209.out] at ho49))
                              have n0_ := Aside0.mk (Kd.V_elder' (by (with_reducible repeat (first | apply Kd.V_alloc | apply Kd.V_drewN | apply Kd.V_drew)); exact HO214.out) (Kd.R_base ho49) hb)
                              have n1_ := Aside0.mk (Kd.R_lower ho49 (below_size (by repeat (first | (with_reducible first | exact HB.out | apply below_alloc | apply pw_below_drewN | apply below_drew1) | exact HB.out))))
                              have n2_ := Aside0.mk (below_step (by repeat (first | (with_reducible first | exact HB.out | apply below_alloc | apply pw_below_drewN | apply below_drew1) | exact HB.out)) hb)
                              clear HO214
                              clear HB
                              have HO214 := n0_
                              have HO211 := n1_
                              have HB := n2_
                              clear n0_ n1_ n2_
                              clear hb ho49
                              refine hK.out _ _ trivial (fun hHeld => ?_)
                              clear hK K
                              refine norm_ (a' := ?_) ?_ ?_
                              rotate_left
                              · show Act.put _ (some 22) _ = _
                                simp only [Act.put, List.setIfInBounds_toArray, List.set_cons_zero, List.set_cons_succ, i64_w, i32_w]
                                rfl
                              exact norm_ (by first | (simp only [putAll, Act.put, List.setIfInBounds_toArray, List.set_cons_zero, List.set_cons_succ]; done) | (simp only [putAll, Act.put, List.setIfInBounds_toArray, List.set_cons_zero, List.set_cons_succ]; rfl)) (hJ1_5_6 (v210, v213) _ ⟨(by (with_reducible repeat (first | apply Kd.R_alloc | apply Kd.R_drewN | apply Kd.R_drew)); exact HO211.out), (by (with_reducible repeat (first | apply Kd.V_alloc | apply Kd.V_drewN | apply Kd.V_drew)); exact Kd.V_mono HO214.out (fun _ hk => hk.2)), (by repeat (first | (with_reducible first | exact HB.out | apply below_alloc | apply pw_below_drewN | apply below_drew1) | exact HB.out))⟩)
                          · skip
                            rintro ⟨v210, v213⟩ w47 ⟨h0_, h1_, h2_⟩
                            have n0_ : Aside0 (Kd.R (Kd.int .u8) 5 w47 w.heap.size (fun _ => True) v210 y209) := ⟨h0_⟩
                            have n1_ : Aside0 (Kd.V (Kd.int .u8) 5 w47 w.heap.size (fun k_ => some k_ ≠ (v210 : Value).ownBlock) v213 t212) := ⟨h1_⟩
                            have n2_ : Aside0 (Below w.heap.size w w47) := ⟨h2_⟩
                            clear HB
                            clear h0_ h1_ h2_
                            have HO211 := n0_
                            have HO214 := n1_
                            have HB := n2_
                            clear n0_ n1_ n2_
                            have hHeld := trivial
                            refine norm_ (a' := ?_) ?_ ?_
                            rotate_left
                            · simp only [putAll, Act.put, List.setIfInBounds_toArray, List.set_cons_zero, List.set_cons_succ]
                              rfl
                            refine two_ (i := 2) (j := 6) (Ni := some 23) (Nj := some 27) #[true, true, true, false, true, true, false, false, false] #[true, true, false, false, true, true, true, false, false] rfl rfl rfl rfl (two_of HT_.out (by kernel_rfl)) (by decide) (by decide) (fun K hK => ?_) (fun K hK => ?_)
                            · skip
                              have hcv48 := own_string (P := Tryd.prog) Tryd.underlying28 Tryd.underlying5 Tryd.underlying9 (Kd.own_of_R HO211.out)
                              refine value_ (w1 := ?_) (v := ?_) (by rfl) rfl ?_ ?_
                              rotate_left 2
                              · go_simp
                                constructor
                                · rfl
                                · rfl
                              clear hcv48
                              refine hK.out _ _ trivial (fun hHeld => ?_)
                              clear hK K
                              refine norm_ (a' := ?_) ?_ ?_
                              rotate_left
                              · show Act.put _ (some 23) _ = _
                                simp only [Act.put, List.setIfInBounds_toArray, List.set_cons_zero, List.set_cons_succ, i64_w, i32_w]
                                rfl
                              refine pure_ (i := 3) (N := some 24) (v := ?_) (a' := ?_) #[true, true, true, true, true, true, false, false, false] rfl rfl (any_of HT_.out (by kernel_rfl)) (fun _ _ _ h => h) (Or.inl ⟨by rfl, ?_⟩) ?_ ?_
                              rotate_left
                              · intro w'
                                go_simp
                                with_reducible rfl
                              rotate_left
                              · simp only [Act.put, List.setIfInBounds_toArray, List.set_cons_zero, List.set_cons_succ, i64_w, i32_w]
                                rfl
                              exact norm_ (by first | (simp only [putAll, Act.put, List.setIfInBounds_toArray, List.set_cons_zero, List.set_cons_succ]; done) | (simp only [putAll, Act.put, List.setIfInBounds_toArray, List.set_cons_zero, List.set_cons_succ]; rfl)) (hJ1_2_5 (v210, v213) _ ⟨(by (with_reducible repeat (first | apply Kd.R_alloc | apply Kd.R_drewN | apply Kd.R_drew)); exact HO211.out), (by (with_reducible repeat (first | apply Kd.V_alloc | apply Kd.V_drewN | apply Kd.V_drew)); exact HO214.out), (by repeat (first | (with_reducible first | exact HB.out | apply below_alloc | apply pw_below_drewN | apply below_drew1) | exact HB.out))⟩)
                            · skip
                              obtain ⟨Ao48, co48, eo48⟩ := Kd.V_slice HO214.out
                              subst eo48
                              refine goes_ Tryd.func11 (by kernel_rfl) rfl #[.slice Ao48 t212.length co48] (by rfl) rfl rfl (by (try simp only [List.map_toArray, List.map_cons, List.map_nil]); first | done | rfl | (simp only [List.length_drop, List.length_take]; rfl)) ?_
                              with_reducible refine (spec_Base64.calls _ _ t212 t215 _ ?side1 ?side2 A12.out).mono ?_
                              (case side1 => repeat (first | exact (Kd.V_reads' HO214.out).2.2 | (with_reducible refine Kd.C_alloc ?_ _) | (with_reducible refine Kd.C_drewN ?_ _) | (with_reducible refine Kd.C_drew ?_)))
                              (case side2 => exact (Kd.V_reads' HO214.out).2.1)
                              rintro e w49 ⟨rfl, hb⟩
                              refine ⟨_, rfl, ?_⟩
                              have n0_ := Aside0.mk (Kd.R_below (by (with_reducible repeat (first | apply Kd.R_alloc | apply Kd.R_drewN | apply Kd.R_drew)); exact HO211.out) hb)
                              have n1_ := Aside0.mk (Kd.V_below (by (with_reducible repeat (first | apply Kd.V_alloc | apply Kd.V_drewN | apply Kd.V_drew)); exact HO214.out) hb)
                              have n2_ := Aside0.mk (below_step (by repeat (first | (with_reducible first | exact HB.out | apply below_alloc | apply pw_below_drewN | apply below_drew1) | exact HB.out)) hb)
                              clear HO211
                              clear HO214
                              clear HB
                              have HO211 := n0_
                              have HO214 := n1_
                              have HB := n2_
                              clear n0_ n1_ n2_
                              (try clear hb)
                              (try clear hb2)
                              (try clear hk)
                              (try clear hi)
                              refine hK.out _ _ trivial (fun hHeld => ?_)
                              clear hK K
                              refine norm_ (a' := ?_) ?_ ?_
                              rotate_left
                              · show Act.put _ (some 27) _ = _
                                simp only [Act.put, List.setIfInBounds_toArray, List.set_cons_zero, List.set_cons_succ, i64_w, i32_w]
                                rfl
                              exact norm_ (by first | (simp only [putAll, Act.put, List.setIfInBounds_toArray, List.set_cons_zero, List.set_cons_succ]; done) | (simp only [putAll, Act.put, List.setIfInBounds_toArray, List.set_cons_zero, List.set_cons_succ]; rfl)) (hJ1_5_6 (v210, .slice Ao48 t212.length co48) _ ⟨(by (with_reducible repeat (first | apply Kd.R_alloc | apply Kd.R_drewN | apply Kd.R_drew)); exact HO211.out), (by (with_reducible repeat (first | apply Kd.V_alloc | apply Kd.V_drewN | apply Kd.V_drew)); exact HO214.out), (by repeat (first | (with_reducible first | exact HB.out | apply below_alloc | apply pw_below_drewN | apply below_drew1) | exact HB.out))⟩)
                        · skip
                          rintro v210 w47 ⟨h0_, h1_⟩
                          have n0_ : Aside0 (Kd.R (Kd.int .u8) 5 w47 w.heap.size (fun _ => True) v210 y209) := ⟨h0_⟩
                          have n1_ : Aside0 (Below w.heap.size w w47) := ⟨h1_⟩
                          clear HB
                          clear h0_ h1_
                          have HO211 := n0_
                          have HB := n1_
                          clear n0_ n1_
                          have hHeld := trivial
                          refine norm_ (a' := ?_) ?_ ?_
                          rotate_left
                          · simp only [putAll, Act.put, List.setIfInBounds_toArray, List.set_cons_zero, List.set_cons_succ]
                            rfl
                          refine one_ (i := 5) (N := some 26) #[true, true, true, true, true, true, false, false, false] rfl rfl (one_of HT_.out (by kernel_rfl)) (by decide) (fun K hK => ?_)
                          refine conv_step 9 28 5 rfl rfl Tryd.underlying9 Tryd.underlying28 Tryd.underlying5 a1 rfl A11.out ?_
                          rintro e w48 ⟨v213, rfl, ho0, hb⟩
                          refine ⟨_, rfl, ?_⟩
                          have n0_ := Aside0.mk (Kd.R_below (by (with_reducible repeat (first | apply Kd.R_alloc | apply Kd.R_drewN | apply Kd.R_drew)); exact HO211.out) hb)
                          have n1_ := Aside0.mk (Kd.V_lower (Kd.V_mono (ok' := fun k_ => some k_ ≠ (v210 : Value).ownBlock) ho0 (fun k_ hk_ => (Kd.fresh' (Kd.R_lt (by (with_reducible repeat (first | apply Kd.R_alloc | apply Kd.R_drewN | apply Kd.R_drew)); exact HO211.out)) k_ hk_))) (below_size (by repeat (first | (with_reducible first | exact HB.out | apply below_alloc | apply pw_below_drewN | apply below_drew1) | exact HB.out))))
                          have n2_ := Aside0.mk (below_step (by repeat (first | (with_reducible first | exact HB.out | apply below_alloc | apply pw_below_drewN | apply below_drew1) | exact HB.out)) hb)
                          clear HO211
                          clear HB
                          have HO211 := n0_
                          have HO214 := n1_
                          have HB := n2_
                          clear n0_ n1_ n2_
                          (try clear hb)
                          (try clear hb2)
                          (try clear hk)
                          (try clear hi)
                          (try clear ho0)
                          refine hK.out _ _ trivial (fun hHeld => ?_)
                          clear hK K
                          refine norm_ (a' := ?_) ?_ ?_
                          rotate_left
                          · show Act.put _ (some 26) _ = _
                            simp only [Act.put, List.setIfInBounds_toArray, List.set_cons_zero, List.set_cons_succ, i64_w, i32_w]
                            rfl
                          exact norm_ (by first | (simp only [putAll, Act.put, List.setIfInBounds_toArray, List.set_cons_zero, List.set_cons_succ]; done) | (simp only [putAll, Act.put, List.setIfInBounds_toArray, List.set_cons_zero, List.set_cons_succ]; rfl)) (hJ1_2_5 (v210, v213) _ ⟨(by (with_reducible repeat (first | apply Kd.R_alloc | apply Kd.R_drewN | apply Kd.R_drew)); exact HO211.out), (by (with_reducible repeat (first | apply Kd.V_alloc | apply Kd.V_drewN | apply Kd.V_drew)); exact HO214.out), (by repeat (first | (with_reducible first | exact HB.out | apply below_alloc | apply pw_below_drewN | apply below_drew1) | exact HB.out))⟩)
                      · skip
                        rintro ⟨v210, v213⟩ w49 ⟨h0_, h1_, h2_⟩
                        have n0_ : Aside0 (Kd.R (Kd.int .u8) 5 w49 w.heap.size (fun _ => True) v210 y209) := ⟨h0_⟩
                        have n1_ : Aside0 (Kd.V (Kd.int .u8) 5 w49 w.heap.size (fun k_ => some k_ ≠ (v210 : Value).ownBlock) v213 t212) := ⟨h1_⟩
                        have n2_ : Aside0 (Below w.heap.size w w49) := ⟨h2_⟩
                        clear HB
                        clear h0_ h1_ h2_
                        have HO211 := n0_
                        have HO214 := n1_
                        have HB := n2_
                        clear n0_ n1_ n2_
                        have hHeld := trivial
                        refine norm_ (a' := ?_) ?_ ?_
                        rotate_left
                        · simp only [putAll, Act.put, List.setIfInBounds_toArray, List.set_cons_zero, List.set_cons_succ]
                          rfl
                        refine one_ (i := 2) (N := some 23) #[true, true, true, false, true, true, true, false, false] rfl rfl (one_of HT_.out (by kernel_rfl)) (by decide) (fun K hK => ?_)
                        have hcv50 := own_string (P := Tryd.prog) Tryd.underlying28 Tryd.underlying5 Tryd.underlying9 (Kd.own_of_R HO211.out)
                        refine value_ (w1 := ?_) (v := ?_) (by rfl) rfl ?_ ?_
                        rotate_left 2
                        · go_simp
                          constructor
                          · rfl
                          · rfl
                        clear hcv50
                        refine hK.out _ _ trivial (fun hHeld => ?_)
                        clear hK K
                        refine norm_ (a' := ?_) ?_ ?_
                        rotate_left
                        · show Act.put _ (some 23) _ = _
                          simp only [Act.put, List.setIfInBounds_toArray, List.set_cons_zero, List.set_cons_succ, i64_w, i32_w]
                          rfl
                        refine pure_ (i := 3) (N := some 24) (v := ?_) (a' := ?_) #[true, true, true, true, true, true, true, false, false] rfl rfl (any_of HT_.out (by kernel_rfl)) (fun _ _ _ h => h) (Or.inl ⟨by rfl, ?_⟩) ?_ ?_
                        rotate_left
                        · intro w'
                          go_simp
                          with_reducible rfl
                        rotate_left
                        · simp only [Act.put, List.setIfInBounds_toArray, List.set_cons_zero, List.set_cons_succ, i64_w, i32_w]
                          rfl
                        exact norm_ (by first | (simp only [putAll, Act.put, List.setIfInBounds_toArray, List.set_cons_zero, List.set_cons_succ]; done) | (simp only [putAll, Act.put, List.setIfInBounds_toArray, List.set_cons_zero, List.set_cons_succ]; rfl)) (hJ1_2_5_6 (v210, v213) _ ⟨(by (with_reducible repeat (first | apply Kd.R_alloc | apply Kd.R_drewN | apply Kd.R_drew)); exact HO211.out), (by (with_reducible repeat (first | apply Kd.V_alloc | apply Kd.V_drewN | apply Kd.V_drew)); exact HO214.out), (by repeat (first | (with_reducible first | exact HB.out | apply below_alloc | apply pw_below_drewN | apply below_drew1) | exact HB.out))⟩)
                    · skip
                      rintro ⟨v210, v213⟩ w48 ⟨h0_, h1_, h2_⟩
                      have n0_ : Aside0 (Kd.R (Kd.int .u8) 5 w48 w.heap.size (fun _ => True) v210 y209) := ⟨h0_⟩
                      have n1_ : Aside0 (Kd.V (Kd.int .u8) 5 w48 w.heap.size (fun k_ => some k_ ≠ (v210 : Value).ownBlock) v213 t212) := ⟨h1_⟩
                      have n2_ : Aside0 (Below w.heap.size w w48) := ⟨h2_⟩
                      clear HB
                      clear h0_ h1_ h2_
                      have HO211 := n0_
                      have HO214 := n1_
                      have HB := n2_
                      clear n0_ n1_ n2_
                      have hHeld := trivial
                      obtain ⟨Ao49, co49, eo49⟩ := Kd.V_slice HO214.out
                      (first | subst eo49 | (injection eo49 with f1_ f2_ f3_; have f4_ := f1_.symm; have f5_ := f3_.symm; clear f1_ f2_ f3_; subst f4_; subst f5_))
                      refine norm_ (a' := ?_) ?_ ?_
                      rotate_left
                      · simp only [putAll, Act.put, List.setIfInBounds_toArray, List.set_cons_zero, List.set_cons_succ]
                        rfl
                      refine one_ (i := 6) (N := some 27) #[true, true, true, true, true, true, true, false, false] rfl rfl (one_of HT_.out (by kernel_rfl)) (by decide) (fun K hK => ?_)
                      refine goes_ Tryd.func11 (by kernel_rfl) rfl #[.slice Ao49 t212.length co49] (by rfl) rfl rfl (by (try simp only [List.map_toArray, List.map_cons, List.map_nil]); first | done | rfl | (simp only [List.length_drop, List.length_take]; rfl)) ?_
                      with_reducible refine (spec_Base64.calls _ _ t212 t215 _ ?side1 ?side2 A12.out).mono ?_
                      (case side1 => repeat (first | exact (Kd.V_reads' HO214.out).2.2 | (with_reducible refine Kd.C_alloc ?_ _) | (with_reducible refine Kd.C_drewN ?_ _) | (with_reducible refine Kd.C_drew ?_)))
                      (case side2 => exact (Kd.V_reads' HO214.out).2.1)
                      rintro e w50 ⟨rfl, hb⟩
                      refine ⟨_, rfl, ?_⟩
                      have n0_ := Aside0.mk (Kd.R_below (by (with_reducible repeat (first | apply Kd.R_alloc | apply Kd.R_drewN | apply Kd.R_drew)); exact HO211.out) hb)
                      have n1_ := Aside0.mk (Kd.V_below (by (with_reducible repeat (first | apply Kd.V_alloc | apply Kd.V_drewN | apply Kd.V_drew)); exact HO214.out) hb)
                      have n2_ := Aside0.mk (below_step (by repeat (first | (with_reducible first | exact HB.out | apply below_alloc | apply pw_below_drewN | apply below_drew1) | exact HB.out)) hb)
                      clear HO211
                      clear HO214
                      clear HB
                      have HO211 := n0_
                      have HO214 := n1_
                      have HB := n2_
                      clear n0_ n1_ n2_
                      (try clear hb)
                      (try clear hb2)
                      (try clear hk)
                      (try clear hi)
                      refine hK.out _ _ trivial (fun hHeld => ?_)
                      clear hK K
                      refine norm_ (a' := ?_) ?_ ?_
                      rotate_left
                      · show Act.put _ (some 27) _ = _
                        simp only [Act.put, List.setIfInBounds_toArray, List.set_cons_zero, List.set_cons_succ, i64_w, i32_w]
                        rfl
                      exact norm_ (by first | (simp only [putAll, Act.put, List.setIfInBounds_toArray, List.set_cons_zero, List.set_cons_succ]; done) | (simp only [putAll, Act.put, List.setIfInBounds_toArray, List.set_cons_zero, List.set_cons_succ]; rfl)) (hJ1_2_5_6 (v210, .slice Ao49 t212.length co49) _ ⟨(by (with_reducible repeat (first | apply Kd.R_alloc | apply Kd.R_drewN | apply Kd.R_drew)); exact HO211.out), (by (with_reducible repeat (first | apply Kd.V_alloc | apply Kd.V_drewN | apply Kd.V_drew)); exact HO214.out), (by repeat (first | (with_reducible first | exact HB.out | apply below_alloc | apply pw_below_drewN | apply below_drew1) | exact HB.out))⟩)
                  rintro ⟨v210, v213⟩ w50 ⟨h0_, h1_, h2_⟩
                  have n0_ : Aside0 (Kd.R (Kd.int .u8) 5 w50 w.heap.size (fun _ => True) v210 y209) := ⟨h0_⟩
                  have n1_ : Aside0 (Kd.V (Kd.int .u8) 5 w50 w.heap.size (fun k_ => some k_ ≠ (v210 : Value).ownBlock) v213 t212) := ⟨h1_⟩
                  have n2_ : Aside0 (Below w.heap.size w w50) := ⟨h2_⟩
                  clear HB
                  clear h0_ h1_ h2_
                  have HO211 := n0_
                  have HO214 := n1_
                  have HB := n2_
                  clear n0_ n1_ n2_
                  have hHeld := trivial
                  refine norm_ (a' := ?_) ?_ ?_
                  rotate_left
                  · simp only [putAll, Act.put, List.setIfInBounds_toArray, List.set_cons_zero, List.set_cons_succ]
                    rfl
                  refine pure_ (i := 7) (N := some 28) (v := ?_) (a' := ?_) #[true, true, true, true, true, true, true, true, false] rfl rfl (any_of HT_.out (by kernel_rfl)) (fun _ _ _ h => h) (Or.inl ⟨by rfl, ?_⟩) ?_ ?_
                  rotate_left
                  · intro w'
                    go_simp
                    with_reducible rfl
                  rotate_left
                  · simp only [Act.put, List.setIfInBounds_toArray, List.set_cons_zero, List.set_cons_succ, i64_w, i32_w]
                    rfl
                  refine pure_ (i := 8) (N := some 5) (v := ?_) (a' := ?_) #[true, true, true, true, true, true, true, true, true] rfl rfl (any_of HT_.out (by kernel_rfl)) (fun _ _ _ h => h) (Or.inl ⟨by rfl, ?_⟩) ?_ ?_
                  rotate_left
                  · intro w'
                    go_simp
                    with_reducible rfl
                  rotate_left
                  · simp only [Act.put, List.setIfInBounds_toArray, List.set_cons_zero, List.set_cons_succ, i64_w, i32_w]
                    rfl
                  refine done_ (done_of HT_.out (by kernel_rfl)) ?_
                  try go_wp2_with (first | ((with_reducible refine gate_callee (f := 14) rfl ?_); refine goesL_ (some 31) rfl rfl Tryd.func14 (by kernel_rfl) rfl #[.int .i64 0, .int .u8 a0, .string a1] rfl (by (try simp only [List.map_toArray, List.map_cons, List.map_nil]); first | done | rfl | (simp only [List.length_drop, List.length_take]; rfl)) ?_; (with_reducible refine (impl_MakeClipboard.calls kj3 0 a0 a1 t216 _ A14.out).mono ?_); rintro e w51 ⟨rfl, hb⟩; refine ⟨_, rfl, ?_⟩; have n0_ := Aside0.mk (Kd.R_below (by (with_reducible repeat (first | apply Kd.R_alloc | apply Kd.R_drewN | apply Kd.R_drew)); exact HO211.out) hb); have n1_ := Aside0.mk (Kd.V_below (by (with_reducible repeat (first | apply Kd.V_alloc | apply Kd.V_drewN | apply Kd.V_drew)); exact HO214.out) hb); have n2_ := Aside0.mk (below_step (by repeat (first | (with_reducible first | exact HB.out | apply below_alloc | apply pw_below_drewN | apply below_drew1) | exact HB.out)) hb); clear HO211; clear HO214; clear HB; have HO211 := n0_; have HO214 := n1_; have HB := n2_; clear n0_ n1_ n2_; (try clear hb); (try clear hb2); (try clear hk); (try clear hi)) | ((with_reducible refine gate_dst (N := 32) rfl ?_); (try (refine gate_guard (by rfl) ?_; dsimp only)); refine conv_ev 9 28 5 rfl rfl Tryd.underlying9 Tryd.underlying28 Tryd.underlying5 t216 rfl A15.out ?_; rintro e w52 ⟨v218, rfl, ho0, hb⟩; refine ⟨_, rfl, ?_⟩; have n0_ := Aside0.mk (Kd.R_below (by (with_reducible repeat (first | apply Kd.R_alloc | apply Kd.R_drewN | apply Kd.R_drew)); exact HO211.out) hb); have n1_ := Aside0.mk (Kd.V_below (by (with_reducible repeat (first | apply Kd.V_alloc | apply Kd.V_drewN | apply Kd.V_drew)); exact HO214.out) hb); have n2_ := Aside0.mk (Kd.V_lower (Kd.V_mono (ok' := fun k_ => some k_ ≠ (v210 : Value).ownBlock) ho0 (fun k_ hk_ => (Kd.fresh' (Kd.R_lt (by (with_reducible repeat (first | apply Kd.R_alloc | apply Kd.R_drewN | apply Kd.R_drew)); exact HO211.out)) k_ hk_))) (below_size (by repeat (first | (with_reducible first | exact HB.out | apply below_alloc | apply pw_below_drewN | apply below_drew1) | exact HB.out)))); have n3_ := Aside0.mk (below_step (by repeat (first | (with_reducible first | exact HB.out | apply below_alloc | apply pw_below_drewN | apply below_drew1) | exact HB.out)) hb); clear HO211; clear HO214; clear HB; have HO211 := n0_; have HO214 := n1_; have HO219 := n2_; have HB := n3_; clear n0_ n1_ n2_ n3_; (try clear hb); (try clear hb2); (try clear hk); (try clear hi); (try clear ho0); obtain ⟨Ao53, co53, eo53⟩ := Kd.V_slice HO219.out; subst eo53) | ((with_reducible refine gate_callee (f := 7) rfl ?_); refine goesL_ (some 33) rfl rfl Tryd.func7 (by kernel_rfl) rfl #[.int .i64 32, .int .i64 4096, .slice Ao53 t217.length co53] rfl (by (try simp only [List.map_toArray, List.map_cons, List.map_nil]); first | done | rfl | (simp only [List.length_drop, List.length_take]; rfl)) ?_; (with_reducible refine (impl_Feed.calls 32 4096 _ _ t217 t220 _ ?side1 ?side2 A16.out).mono ?_); (case side1 => repeat (first | exact (Kd.V_reads' HO219.out).2.2 | (with_reducible refine Kd.C_alloc ?_ _) | (with_reducible refine Kd.C_drewN ?_ _) | (with_reducible refine Kd.C_drew ?_))); (case side2 => exact (Kd.V_reads' HO219.out).2.1); rintro e w54 ⟨v221, rfl, ho0, hb⟩; refine ⟨_, rfl, ?_⟩; have n0_ := Aside0.mk (Kd.R_below (by (with_reducible repeat (first | apply Kd.R_alloc | apply Kd.R_drewN | apply Kd.R_drew)); exact HO211.out) hb); have n1_ := Aside0.mk (Kd.V_elder' (by (with_reducible repeat (first | apply Kd.V_alloc | apply Kd.V_drewN | apply Kd.V_drew)); exact HO214.out) (by first | exact Kd.N_base ho0 | exact Kd.S_base ho0) hb); have n2_ := Aside0.mk (Kd.V_elder' (by (with_reducible repeat (first | apply Kd.V_alloc | apply Kd.V_drewN | apply Kd.V_drew)); exact HO219.out) (by first | exact Kd.N_base ho0 | exact Kd.S_base ho0) hb); have n3_ := Aside0.mk (Kd.N_lower (Kd.N_mono (ok' := fun k_ => some k_ ≠ (v210 : Value).ownBlock) (Kd.S_N (Kd.S_bound ho0)) (fun k_ hk_ => (Kd.fresh' (Kd.R_lt (by (with_reducible repeat (first | apply Kd.R_alloc | apply Kd.R_drewN | apply Kd.R_drew)); exact HO211.out)) k_ hk_.2.1))) (below_size (by repeat (first | (with_reducible first | exact HB.out | apply below_alloc | apply pw_below_drewN | apply below_drew1) | exact HB.out)))); have n4_ := Aside0.mk (below_step (by repeat (first | (with_reducible first | exact HB.out | apply below_alloc | apply pw_below_drewN | apply below_drew1) | exact HB.out)) hb); clear HO211; clear HO214; clear HO219; clear HB; have HO211 := n0_; have HO214 := n1_; have HO219 := n2_; have HO222 := n3_; have HB := n4_; clear n0_ n1_ n2_ n3_ n4_; (try clear hb); (try clear hb2); (try clear hk); (try clear hi); (try clear ho0); obtain ⟨Ao55, co55, eo55⟩ := Kd.N_slice HO222.out; subst eo55) | ((with_reducible refine gate_callee (f := 13) rfl ?_); refine goesL_ (some 34) rfl rfl Tryd.func13 (by kernel_rfl) rfl #[.slice Ao55 t220.length co55] rfl (by (try simp only [List.map_toArray, List.map_cons, List.map_nil]); first | done | rfl | (simp only [List.length_drop, List.length_take]; rfl)) ?_; (with_reducible refine (laws_drawEvents.calls kj3 (fun k_ => some k_ ≠ (v210 : Value).ownBlock) _ _ t220 t223 _ ?side1 A17.out).mono ?_); (case side1 => exact Kd.N_V (HO222.out)); rintro e w56 ⟨v224, rfl, ho0, hb⟩; refine ⟨_, rfl, ?_⟩; have n0_ := Aside0.mk (Kd.R_below (by (with_reducible repeat (first | apply Kd.R_alloc | apply Kd.R_drewN | apply Kd.R_drew)); exact HO211.out) hb); have n1_ := Aside0.mk (Kd.V_elder' (by (with_reducible repeat (first | apply Kd.V_alloc | apply Kd.V_drewN | apply Kd.V_drew)); exact HO214.out) (by first | exact Kd.N_base ho0 | exact Kd.S_base ho0) hb); have n2_ := Aside0.mk (Kd.V_elder' (by (with_reducible repeat (first | apply Kd.V_alloc | apply Kd.V_drewN | apply Kd.V_drew)); exact HO219.out) (by first | exact Kd.N_base ho0 | exact Kd.S_base ho0) hb); have n3_ := Aside0.mk (Kd.N_elder' (by (with_reducible repeat (first | apply Kd.N_alloc | apply Kd.N_drewN | apply Kd.N_drew)); exact HO222.out) (by first | exact Kd.N_base ho0 | exact Kd.S_base ho0) hb); have n4_ := Aside0.mk (Kd.N_lower (Kd.N_mono (ok' := fun k_ => some k_ ≠ (v210 : Value).ownBlock) ho0 (fun k_ hk_ => Or.elim hk_ (fun hs_ => hs_) (fun hn_ => (Kd.fresh' (Kd.R_lt (by (with_reducible repeat (first | apply Kd.R_alloc | apply Kd.R_drewN | apply Kd.R_drew)); exact HO211.out)) k_ hn_)))) (below_size (by repeat (first | (with_reducible first | exact HB.out | apply below_alloc | apply pw_below_drewN | apply below_drew1) | exact HB.out)))); have n5_ := Aside0.mk (below_step (by repeat (first | (with_reducible first | exact HB.out | apply below_alloc | apply pw_below_drewN | apply below_drew1) | exact HB.out)) hb); clear HO211; clear HO214; clear HO219; clear HO222; clear HB; have HO211 := n0_; have HO214 := n1_; have HO219 := n2_; have HO222 := n3_; have HO225 := n4_; have HB := n5_; clear n0_ n1_ n2_ n3_ n4_ n5_; (try clear hb); (try clear hb2); (try clear hk); (try clear hi); (try clear ho0)) | ((with_reducible refine gate_dst (N := 35) rfl ?_); (try (refine gate_guard (by rfl) ?_; dsimp only)); refine Kd.R_lit (Kd.int .i64) _ 2 ?hg (N := 35) ?hd (xs := ([52] : List Int)) (inner := [.int .i64 52]) (ok := fun _ => True) (okp := fun _ => True) ?hr ?hp (fun _ hk => hk) trivial (Below.refl _ _) (Nat.le_refl _) (by simp) ?_; (case hd => rfl); (case hg => rfl); (case hr => first | (go_simp; done) | (go_simp; rfl)); (case hp => exact (Reps.one (show Kd.M (Kd.int .i64) _ _ _ 52 [.int .i64 52] from rfl) (Reps.none _ _))); intro v227 w57 ho58 hb hg_ hnew_; clear hg_ hnew_; (first | rw [← Ny226.out] at ho58 | (simp only [Int.reduceToNat] at ho58; rw [← Ny226.out] at ho58)); have n0_ := Aside0.mk (Kd.R_below (by (with_reducible repeat (first | apply Kd.R_alloc | apply Kd.R_drewN | apply Kd.R_drew)); exact HO211.out) hb); have n1_ := Aside0.mk (Kd.V_elder' (by (with_reducible repeat (first | apply Kd.V_alloc | apply Kd.V_drewN | apply Kd.V_drew)); exact HO214.out) (Kd.R_base ho58) hb); have n2_ := Aside0.mk (Kd.V_elder' (by (with_reducible repeat (first | apply Kd.V_alloc | apply Kd.V_drewN | apply Kd.V_drew)); exact HO219.out) (Kd.R_base ho58) hb); have n3_ := Aside0.mk (Kd.N_elder' (by (with_reducible repeat (first | apply Kd.N_alloc | apply Kd.N_drewN | apply Kd.N_drew)); exact HO222.out) (Kd.R_base ho58) hb); have n4_ := Aside0.mk (Kd.N_elder' (by (with_reducible repeat (first | apply Kd.N_alloc | apply Kd.N_drewN | apply Kd.N_drew)); exact HO225.out) (Kd.R_base ho58) hb); have n5_ := Aside0.mk (Kd.R_lower ho58 (below_size (by repeat (first | (with_reducible first | exact HB.out | apply below_alloc | apply pw_below_drewN | apply below_drew1) | exact HB.out)))); have n6_ := Aside0.mk (below_step (by repeat (first | (with_reducible first | exact HB.out | apply below_alloc | apply pw_below_drewN | apply below_drew1) | exact HB.out)) hb); clear HO211; clear HO214; clear HO219; clear HO222; clear HO225; clear HB; have HO211 := n0_; have HO214 := n1_; have HO219 := n2_; have HO222 := n3_; have HO225 := n4_; have HO228 := n5_; have HB := n6_; clear n0_ n1_ n2_ n3_ n4_ n5_ n6_; clear hb ho58; obtain ⟨Ao59, co59, eo59⟩ := Kd.N_slice HO225.out; subst eo59; obtain ⟨Ao60, co60, eo60⟩ := Kd.R_slice HO228.out; subst eo60) | ((with_reducible refine gate_callee (f := 12) rfl ?_); refine goesL_ (some 36) rfl rfl Tryd.func12 (by kernel_rfl) rfl #[.slice Ao59 t223.length co59, .slice Ao60 y226.length co60] rfl (by (try simp only [List.map_toArray, List.map_cons, List.map_nil]); first | done | rfl | (simp only [List.length_drop, List.length_take]; rfl)) ?_; (with_reducible refine (spec_DrawTold.calls kj3 _ _ t223 _ _ y226 t229 _ ?side1 ?side2 ?side3 ?side4 A18.out).mono ?_); (case side1 => repeat (first | exact (Kd.N_reads' HO225.out).2.2 | (with_reducible refine Kd.C_alloc ?_ _) | (with_reducible refine Kd.C_drewN ?_ _) | (with_reducible refine Kd.C_drew ?_))); (case side2 => exact (Kd.N_reads' HO225.out).2.1); (case side3 => repeat (first | exact (Kd.R_reads' HO228.out).2.2 | (with_reducible refine Kd.C_alloc ?_ _) | (with_reducible refine Kd.C_drewN ?_ _) | (with_reducible refine Kd.C_drew ?_))); (case side4 => exact (Kd.R_reads' HO228.out).2.1); rintro e w61 ⟨v230, rfl, ho0, hb⟩; refine ⟨_, rfl, ?_⟩; have n0_ := Aside0.mk (Kd.R_below (by (with_reducible repeat (first | apply Kd.R_alloc | apply Kd.R_drewN | apply Kd.R_drew)); exact HO211.out) hb); have n1_ := Aside0.mk (Kd.V_elder' (by (with_reducible repeat (first | apply Kd.V_alloc | apply Kd.V_drewN | apply Kd.V_drew)); exact HO214.out) (Kd.R_base ho0) hb); have n2_ := Aside0.mk (Kd.V_elder' (by (with_reducible repeat (first | apply Kd.V_alloc | apply Kd.V_drewN | apply Kd.V_drew)); exact HO219.out) (Kd.R_base ho0) hb); have n3_ := Aside0.mk (Kd.N_elder' (by (with_reducible repeat (first | apply Kd.N_alloc | apply Kd.N_drewN | apply Kd.N_drew)); exact HO222.out) (Kd.R_base ho0) hb); have n4_ := Aside0.mk (Kd.N_elder' (by (with_reducible repeat (first | apply Kd.N_alloc | apply Kd.N_drewN | apply Kd.N_drew)); exact HO225.out) (Kd.R_base ho0) hb); have n5_ := Aside0.mk (Kd.R_below (by (with_reducible repeat (first | apply Kd.R_alloc | apply Kd.R_drewN | apply Kd.R_drew)); exact HO228.out) hb); have n6_ := Aside0.mk (Kd.R_lower ho0 (below_size (by repeat (first | (with_reducible first | exact HB.out | apply below_alloc | apply pw_below_drewN | apply below_drew1) | exact HB.out)))); have n7_ := Aside0.mk (below_step (by repeat (first | (with_reducible first | exact HB.out | apply below_alloc | apply pw_below_drewN | apply below_drew1) | exact HB.out)) hb); clear HO211; clear HO214; clear HO219; clear HO222; clear HO225; clear HO228; clear HB; have HO211 := n0_; have HO214 := n1_; have HO219 := n2_; have HO222 := n3_; have HO225 := n4_; have HO228 := n5_; have HO231 := n6_; have HB := n7_; clear n0_ n1_ n2_ n3_ n4_ n5_ n6_ n7_; (try clear hb); (try clear hb2); (try clear hk); (try clear hi); (try clear ho0); obtain ⟨Ao62, co62, eo62⟩ := Kd.R_slice HO231.out; subst eo62; have p232 : 0 ≤ (0 : Int) := (by omega); have q232 : 0 < (t229.length : Int) := of_decide_eq_true (by first | (with_reducible assumption) | assumption); obtain ⟨ad232, e232, hx232_0⟩ := Kd.at_string (Kd.R_reads' HO231.out).2.2 0 p232 q232; cases e232; have qi232 : (0 < t229.length) = True := eq_true (by omega); (try rw [show ((0 : Int)).toNat = 0 from rfl] at hx232_0); (try rw [Addr.add_zero'] at hx232_0); replace p232 := eq_true p232; replace q232 := eq_true q232))
                  go_ret
                  exact ⟨by first | rfl | (simp [errW_none, errW_some] <;> rfl) | (simp [*, errW_none, errW_some] <;> rfl), by repeat (first | (with_reducible first | exact HB.out | apply below_alloc | apply pw_below_drewN | apply below_drew1) | exact HB.out)⟩
              · rw [if_neg c19] at H
                exact absurd H (by simp)
            · rw [if_neg c13] at H
              exact absurd H (by simp)
          · rw [if_neg c10] at H
            exact absurd H (by simp)
end Go.Proofs.YtjkjnhcnmjknmaaDoor.Y
end
