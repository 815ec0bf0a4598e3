/- Texts of this claim, joined: Y41 Y42 Y43. Of each, what the claim uses. -/
import Derived.Test.YteebhoehflgfoaaGreatDoorKac
import Derived.Test.YteebhoehflgfoaaGreatDoorKaq
import Derived.Test.YteebhoehflgfoaaGreatDoorKat
section
namespace Go.Proofs.YteebhoehflgfoaaGreatDoor.Y
open Go.RowKit Go.Proofs.YteebhoehflgfoaaGreatDoorW.PrintWords Go.Proofs.YteebhoehflgfoaaGreatDoorW.PrintLast Go.Proofs.YteebhoehflgfoaaGreatDoorW.PrintMore
attribute [local go_sem] max2_int min2_int max_two min_two max_three min_three max_four min_four
set_option linter.unusedVariables false
set_option linter.unusedSimpArgs false
set_option maxHeartbeats 8000000 in
set_option maxRecDepth 100000 in
theorem xansi_CursorPosition.calls (k : Nat) (a0 : Int) (a1 : Int) (r : ByteArray) (w : World) (hT : XTab w) (h : xansi_CursorPosition.f k a0 a1 = some r) :
  Calls Tryz.prog 114 #[.int .i64 a0, .int .i64 a1] w fun e w' => e = .returned (.string r) ∧ Below w.heap.size w w' := by
 have HT := Aside0.mk hT
 clear hT
 have HB := Aside0.mk (Below.refl w.heap.size w)
 have H : (if a1 ≤ 1 then (xansi_CursorPosition.j0 k a0 a1 (decide (a0 ≤ 1))) else (xansi_CursorPosition.j0 k a0 a1 false)) = some r := h
 clear h
 have HC3 := Aside0.mk H
 clear H
 go_enter Tryz.func114, Tryz.ntmps114
 go_upto_region 1 with (fail)
 go_cut [12] (fun v12 wc => ∃ (kq : Nat) (x12_2 : Bool), v12 = .bool x12_2 ∧ Aside0 (xansi_CursorPosition.j0 kq a0 a1 x12_2 = some r) ∧ Aside0 (kq ≤ k) ∧ Aside0 (Below w.heap.size w wc))
 case first =>
  have H := HC3.out
  clear HC3
  by_cases c4 : a1 ≤ 1
  ·rw [if_pos c4] at H
   have c4b0 : decide (a1 ≤ 1) = true := decide_eq_true c4
   clear c4
   (first | rw [c4b0] | (simp only [i64_w, i32_w]; rw [c4b0]) | skip)
   have H' := Aside0.mk H
   clear H
   go_wp2
   go_meet
   case rel => exact ⟨_, (decide (a0 ≤ 1)), (by first | rfl | (simp; done) | (simp [*]; done)), H', ⟨by first | omega | exact Nat.le_refl _⟩, ⟨by repeat (first | (with_reducible first | exact HB.out | apply below_alloc | apply pw_below_drewN | apply below_drew1) | exact HB.out)⟩⟩
  ·rw [if_neg c4] at H
   have c4b0 : decide (a1 ≤ 1) = false := decide_eq_false c4
   clear c4
   (first | rw [c4b0] | (simp only [i64_w, i32_w]; rw [c4b0]) | skip)
   have H' := Aside0.mk H
   clear H
   go_wp2
   go_meet
   case rel => exact ⟨_, (false), (by first | rfl | (simp; done) | (simp [*]; done)), H', ⟨by first | omega | exact Nat.le_refl _⟩, ⟨by repeat (first | (with_reducible first | exact HB.out | apply below_alloc | apply pw_below_drewN | apply below_drew1) | exact HB.out)⟩⟩
 case rest =>
  clear HC3
  try clear c1
  try clear p2
  try clear c4
  try clear c4b0
  obtain ⟨kq, x12_2, rfl, HA, HJ2, HB⟩ := hcut
  cases kq with
  | zero => exact absurd HA.out (by simp [xansi_CursorPosition.j0])
  | succ kj2 =>
   have H := HA.out
   clear HA
   simp only [xansi_CursorPosition.j0] at H
   by_cases c5 : x12_2 = true
   ·subst c5
    have H1 : (some (⟨#[27, 91, 72]⟩ : ByteArray)) = some r := by rw [if_pos rfl] at H; exact H
    clear H
    have H := H1
    clear H1
    obtain rfl := Option.some.inj H
    go_wp2
    go_ret
    exact ⟨by first | rfl | (simp [errW_none, errW_some] <;> rfl) | (simp [*, errW_none, errW_some] <;> rfl), by repeat (first | (with_reducible first | exact HB.out | apply below_alloc | apply pw_below_drewN | apply below_drew1) | exact HB.out)⟩
   ·replace c5 := Bool.eq_false_iff.mpr c5
    subst c5
    have H1 : (if a1 > 0 then ((strconv_Itoa.f a1).bind fun t130 => (if a0 > 0 then ((strconv_Itoa.f a0).bind fun t131 => (if 2 + t130.size ≤ 9223372036854775807 then (if 2 + t130.size + 1 ≤ 9223372036854775807 then (if 2 + t130.size + 1 + t131.size ≤ 9223372036854775807 then (if 2 + t130.size + 1 + t131.size + 1 ≤ 9223372036854775807 then (some (((((⟨#[27, 91]⟩ : ByteArray) ++ t130) ++ (⟨#[59]⟩ : ByteArray)) ++ t131) ++ (⟨#[72]⟩ : ByteArray))) else (none)) else (none)) else (none)) else (none))) else (if 2 + t130.size ≤ 9223372036854775807 then (if 2 + t130.size + 1 ≤ 9223372036854775807 then (if 2 + t130.size + 1 + 0 ≤ 9223372036854775807 then (if 2 + t130.size + 1 + 0 + 1 ≤ 9223372036854775807 then (some (((((⟨#[27, 91]⟩ : ByteArray) ++ t130) ++ (⟨#[59]⟩ : ByteArray)) ++ (⟨#[]⟩ : ByteArray)) ++ (⟨#[72]⟩ : ByteArray))) else (none)) else (none)) else (none)) else (none)))) else (if a0 > 0 then ((strconv_Itoa.f a0).bind fun t132 => (if 2 + 0 ≤ 9223372036854775807 then (if 2 + 0 + 1 ≤ 9223372036854775807 then (if 2 + 0 + 1 + t132.size ≤ 9223372036854775807 then (if 2 + 0 + 1 + t132.size + 1 ≤ 9223372036854775807 then (some (((((⟨#[27, 91]⟩ : ByteArray) ++ (⟨#[]⟩ : ByteArray)) ++ (⟨#[59]⟩ : ByteArray)) ++ t132) ++ (⟨#[72]⟩ : ByteArray))) else (none)) else (none)) else (none)) else (none))) else (if 2 + 0 ≤ 9223372036854775807 then (if 2 + 0 + 1 ≤ 9223372036854775807 then (if 2 + 0 + 1 + 0 ≤ 9223372036854775807 then (if 2 + 0 + 1 + 0 + 1 ≤ 9223372036854775807 then (some (((((⟨#[27, 91]⟩ : ByteArray) ++ (⟨#[]⟩ : ByteArray)) ++ (⟨#[59]⟩ : ByteArray)) ++ (⟨#[]⟩ : ByteArray)) ++ (⟨#[72]⟩ : ByteArray))) else (none)) else (none)) else (none)) else (none)))) = some r := by rw [if_neg (show ¬ (false = true) by decide)] at H; exact H
    clear H
    have H := H1
    clear H1
    by_cases c6 : a1 > 0
    ·rw [if_pos c6] at H
     have c6b0 : decide (0 < a1) = true := decide_eq_true c6
     clear c6
     replace H := Option.bind_eq_some_iff.mp H
     obtain ⟨t130, A70, H⟩ := H
     replace H : (if a0 > 0 then ((strconv_Itoa.f a0).bind fun t131 => (if 2 + t130.size ≤ 9223372036854775807 then (if 2 + t130.size + 1 ≤ 9223372036854775807 then (if 2 + t130.size + 1 + t131.size ≤ 9223372036854775807 then (if 2 + t130.size + 1 + t131.size + 1 ≤ 9223372036854775807 then (some (((((⟨#[27, 91]⟩ : ByteArray) ++ t130) ++ (⟨#[59]⟩ : ByteArray)) ++ t131) ++ (⟨#[72]⟩ : ByteArray))) else (none)) else (none)) else (none)) else (none))) else (if 2 + t130.size ≤ 9223372036854775807 then (if 2 + t130.size + 1 ≤ 9223372036854775807 then (if 2 + t130.size + 1 + 0 ≤ 9223372036854775807 then (if 2 + t130.size + 1 + 0 + 1 ≤ 9223372036854775807 then (some (((((⟨#[27, 91]⟩ : ByteArray) ++ t130) ++ (⟨#[59]⟩ : ByteArray)) ++ (⟨#[]⟩ : ByteArray)) ++ (⟨#[72]⟩ : ByteArray))) else (none)) else (none)) else (none)) else (none))) = some r := H
     have A7 := Aside0.mk A70
     clear A70
     by_cases c8 : a0 > 0
     ·rw [if_pos c8] at H
      have c8b0 : decide (0 < a0) = true := decide_eq_true c8
      clear c8
      replace H := Option.bind_eq_some_iff.mp H
      obtain ⟨t131, A90, H⟩ := H
      replace H : (if 2 + t130.size ≤ 9223372036854775807 then (if 2 + t130.size + 1 ≤ 9223372036854775807 then (if 2 + t130.size + 1 + t131.size ≤ 9223372036854775807 then (if 2 + t130.size + 1 + t131.size + 1 ≤ 9223372036854775807 then (some (((((⟨#[27, 91]⟩ : ByteArray) ++ t130) ++ (⟨#[59]⟩ : ByteArray)) ++ t131) ++ (⟨#[72]⟩ : ByteArray))) else (none)) else (none)) else (none)) else (none)) = some r := H
      have A9 := Aside0.mk A90
      clear A90
      by_cases c10 : 2 + t130.size ≤ 9223372036854775807
      ·rw [if_pos c10] at H
       have c10b0 := eq_true c10
       have c10b1 : decide (2 + t130.size ≤ 9223372036854775807) = true := decide_eq_true c10
       try have c10b2 : (9223372036854775807 < 2 + t130.size) = False := eq_false (Nat.not_lt.2 c10)
       by_cases c11 : 2 + t130.size + 1 ≤ 9223372036854775807
       ·rw [if_pos c11] at H
        have c11b0 := eq_true c11
        have c11b1 : decide (2 + t130.size + 1 ≤ 9223372036854775807) = true := decide_eq_true c11
        try have c11b2 : (9223372036854775807 < 2 + t130.size + 1) = False := eq_false (Nat.not_lt.2 c11)
        by_cases c12 : 2 + t130.size + 1 + t131.size ≤ 9223372036854775807
        ·rw [if_pos c12] at H
         have c12b0 := eq_true c12
         have c12b1 : decide (2 + t130.size + 1 + t131.size ≤ 9223372036854775807) = true := decide_eq_true c12
         try have c12b2 : (9223372036854775807 < 2 + t130.size + 1 + t131.size) = False := eq_false (Nat.not_lt.2 c12)
         by_cases c13 : 2 + t130.size + 1 + t131.size + 1 ≤ 9223372036854775807
         ·rw [if_pos c13] at H
          have c13b0 := eq_true c13
          have c13b1 : decide (2 + t130.size + 1 + t131.size + 1 ≤ 9223372036854775807) = true := decide_eq_true c13
          try have c13b2 : (9223372036854775807 < 2 + t130.size + 1 + t131.size + 1) = False := eq_false (Nat.not_lt.2 c13)
          obtain rfl := Option.some.inj H
          go_wp2_with (first | ((with_reducible refine gate_callee (f := 103) rfl ?_); refine goesL_ (some 16) rfl rfl Tryz.func103 (by kernel_rfl) rfl #[.int .i64 a1] rfl (by (try simp only [List.map_toArray, List.map_cons, List.map_nil]); first | done | rfl | (simp only [List.length_drop, List.length_take]; rfl)) ?_; (with_reducible refine (strconv_Itoa.calls a1 t130 _ ?side1 A7.out).mono ?_); (case side1 => exact XTab.below HT.out (by repeat (first | (with_reducible first | exact HB.out | apply below_alloc | apply pw_below_drewN | apply below_drew1) | exact HB.out))); rintro e w14 ⟨rfl, hb⟩; refine ⟨_, rfl, ?_⟩; have n0_ := Aside0.mk (below_step (by repeat (first | (with_reducible first | exact HB.out | apply below_alloc | apply pw_below_drewN | apply below_drew1) | exact HB.out)) hb); clear HB; have HB := n0_; clear n0_; (try clear hb); (try clear hb2); (try clear hk); (try clear hi)) | ((with_reducible refine gate_callee (f := 103) rfl ?_); refine goesL_ (some 20) rfl rfl Tryz.func103 (by kernel_rfl) rfl #[.int .i64 a0] rfl (by (try simp only [List.map_toArray, List.map_cons, List.map_nil]); first | done | rfl | (simp only [List.length_drop, List.length_take]; rfl)) ?_; (with_reducible refine (strconv_Itoa.calls a0 t131 _ ?side1 A9.out).mono ?_); (case side1 => exact XTab.below HT.out (by repeat (first | (with_reducible first | exact HB.out | apply below_alloc | apply pw_below_drewN | apply below_drew1) | exact HB.out))); rintro e w15 ⟨rfl, hb⟩; refine ⟨_, rfl, ?_⟩; have n0_ := Aside0.mk (below_step (by repeat (first | (with_reducible first | exact HB.out | apply below_alloc | apply pw_below_drewN | apply below_drew1) | exact HB.out)) hb); clear HB; have HB := n0_; clear n0_; (try clear hb); (try clear hb2); (try clear hk); (try clear hi)))
          go_ret
          exact ⟨by first | rfl | (simp [errW_none, errW_some] <;> rfl) | (simp [*, errW_none, errW_some] <;> rfl), by repeat (first | (with_reducible first | exact HB.out | apply below_alloc | apply pw_below_drewN | apply below_drew1) | exact HB.out)⟩
         ·rw [if_neg c13] at H
          exact absurd H (by simp)
        ·rw [if_neg c12] at H
         exact absurd H (by simp)
       ·rw [if_neg c11] at H
        exact absurd H (by simp)
      ·rw [if_neg c10] at H
       exact absurd H (by simp)
     ·rw [if_neg c8] at H
      have c8b0 : decide (0 < a0) = false := decide_eq_false c8
      clear c8
      by_cases c16 : 2 + t130.size ≤ 9223372036854775807
      ·rw [if_pos c16] at H
       have c16b0 := eq_true c16
       have c16b1 : decide (2 + t130.size ≤ 9223372036854775807) = true := decide_eq_true c16
       try have c16b2 : (9223372036854775807 < 2 + t130.size) = False := eq_false (Nat.not_lt.2 c16)
       by_cases c17 : 2 + t130.size + 1 ≤ 9223372036854775807
       ·rw [if_pos c17] at H
        have c17b0 := eq_true c17
        have c17b1 : decide (2 + t130.size + 1 ≤ 9223372036854775807) = true := decide_eq_true c17
        try have c17b2 : (9223372036854775807 < 2 + t130.size + 1) = False := eq_false (Nat.not_lt.2 c17)
        by_cases c18 : 2 + t130.size + 1 + 0 ≤ 9223372036854775807
        ·rw [if_pos c18] at H
         have c18b0 := eq_true c18
         have c18b1 : decide (2 + t130.size + 1 + 0 ≤ 9223372036854775807) = true := decide_eq_true c18
         try have c18b2 : (9223372036854775807 < 2 + t130.size + 1 + 0) = False := eq_false (Nat.not_lt.2 c18)
         by_cases c19 : 2 + t130.size + 1 + 0 + 1 ≤ 9223372036854775807
         ·rw [if_pos c19] at H
          have c19b0 := eq_true c19
          have c19b1 : decide (2 + t130.size + 1 + 0 + 1 ≤ 9223372036854775807) = true := decide_eq_true c19
          try have c19b2 : (9223372036854775807 < 2 + t130.size + 1 + 0 + 1) = False := eq_false (Nat.not_lt.2 c19)
          obtain rfl := Option.some.inj H
          go_wp2_with (first | ((with_reducible refine gate_callee (f := 103) rfl ?_); refine goesL_ (some 16) rfl rfl Tryz.func103 (by kernel_rfl) rfl #[.int .i64 a1] rfl (by (try simp only [List.map_toArray, List.map_cons, List.map_nil]); first | done | rfl | (simp only [List.length_drop, List.length_take]; rfl)) ?_; (with_reducible refine (strconv_Itoa.calls a1 t130 _ ?side1 A7.out).mono ?_); (case side1 => exact XTab.below HT.out (by repeat (first | (with_reducible first | exact HB.out | apply below_alloc | apply pw_below_drewN | apply below_drew1) | exact HB.out))); rintro e w20 ⟨rfl, hb⟩; refine ⟨_, rfl, ?_⟩; have n0_ := Aside0.mk (below_step (by repeat (first | (with_reducible first | exact HB.out | apply below_alloc | apply pw_below_drewN | apply below_drew1) | exact HB.out)) hb); clear HB; have HB := n0_; clear n0_; (try clear hb); (try clear hb2); (try clear hk); (try clear hi)))
          go_ret
          exact ⟨by first | rfl | (simp [errW_none, errW_some] <;> rfl) | (simp [*, errW_none, errW_some] <;> rfl), by repeat (first | (with_reducible first | exact HB.out | apply below_alloc | apply pw_below_drewN | apply below_drew1) | exact HB.out)⟩
         ·rw [if_neg c19] at H
          exact absurd H (by simp)
        ·rw [if_neg c18] at H
         exact absurd H (by simp)
       ·rw [if_neg c17] at H
        exact absurd H (by simp)
      ·rw [if_neg c16] at H
       exact absurd H (by simp)
    ·rw [if_neg c6] at H
     have c6b0 : decide (0 < a1) = false := decide_eq_false c6
     clear c6
     by_cases c21 : a0 > 0
     ·rw [if_pos c21] at H
      have c21b0 : decide (0 < a0) = true := decide_eq_true c21
      clear c21
      replace H := Option.bind_eq_some_iff.mp H
      obtain ⟨t132, A220, H⟩ := H
      replace H : (if 2 + 0 ≤ 9223372036854775807 then (if 2 + 0 + 1 ≤ 9223372036854775807 then (if 2 + 0 + 1 + t132.size ≤ 9223372036854775807 then (if 2 + 0 + 1 + t132.size + 1 ≤ 9223372036854775807 then (some (((((⟨#[27, 91]⟩ : ByteArray) ++ (⟨#[]⟩ : ByteArray)) ++ (⟨#[59]⟩ : ByteArray)) ++ t132) ++ (⟨#[72]⟩ : ByteArray))) else (none)) else (none)) else (none)) else (none)) = some r := H
      have A22 := Aside0.mk A220
      clear A220
      by_cases c23 : 2 + 0 ≤ 9223372036854775807
      ·rw [if_pos c23] at H
       have c23b0 := eq_true c23
       have c23b1 : decide (2 + 0 ≤ 9223372036854775807) = true := decide_eq_true c23
       try have c23b2 : (9223372036854775807 < 2 + 0) = False := eq_false (Nat.not_lt.2 c23)
       by_cases c24 : 2 + 0 + 1 ≤ 9223372036854775807
       ·rw [if_pos c24] at H
        have c24b0 := eq_true c24
        have c24b1 : decide (2 + 0 + 1 ≤ 9223372036854775807) = true := decide_eq_true c24
        try have c24b2 : (9223372036854775807 < 2 + 0 + 1) = False := eq_false (Nat.not_lt.2 c24)
        by_cases c25 : 2 + 0 + 1 + t132.size ≤ 9223372036854775807
        ·rw [if_pos c25] at H
         have c25b0 := eq_true c25
         have c25b1 : decide (2 + 0 + 1 + t132.size ≤ 9223372036854775807) = true := decide_eq_true c25
         try have c25b2 : (9223372036854775807 < 2 + 0 + 1 + t132.size) = False := eq_false (Nat.not_lt.2 c25)
         by_cases c26 : 2 + 0 + 1 + t132.size + 1 ≤ 9223372036854775807
         ·rw [if_pos c26] at H
          have c26b0 := eq_true c26
          have c26b1 : decide (2 + 0 + 1 + t132.size + 1 ≤ 9223372036854775807) = true := decide_eq_true c26
          try have c26b2 : (9223372036854775807 < 2 + 0 + 1 + t132.size + 1) = False := eq_false (Nat.not_lt.2 c26)
          obtain rfl := Option.some.inj H
          go_wp2_with (first | ((with_reducible refine gate_callee (f := 103) rfl ?_); refine goesL_ (some 20) rfl rfl Tryz.func103 (by kernel_rfl) rfl #[.int .i64 a0] rfl (by (try simp only [List.map_toArray, List.map_cons, List.map_nil]); first | done | rfl | (simp only [List.length_drop, List.length_take]; rfl)) ?_; (with_reducible refine (strconv_Itoa.calls a0 t132 _ ?side1 A22.out).mono ?_); (case side1 => exact XTab.below HT.out (by repeat (first | (with_reducible first | exact HB.out | apply below_alloc | apply pw_below_drewN | apply below_drew1) | exact HB.out))); rintro e w27 ⟨rfl, hb⟩; refine ⟨_, rfl, ?_⟩; have n0_ := Aside0.mk (below_step (by repeat (first | (with_reducible first | exact HB.out | apply below_alloc | apply pw_below_drewN | apply below_drew1) | exact HB.out)) hb); clear HB; have HB := n0_; clear n0_; (try clear hb); (try clear hb2); (try clear hk); (try clear hi)))
          go_ret
          exact ⟨by first | rfl | (simp [errW_none, errW_some] <;> rfl) | (simp [*, errW_none, errW_some] <;> rfl), by repeat (first | (with_reducible first | exact HB.out | apply below_alloc | apply pw_below_drewN | apply below_drew1) | exact HB.out)⟩
         ·rw [if_neg c26] at H
          exact absurd H (by simp)
        ·rw [if_neg c25] at H
         exact absurd H (by simp)
       ·rw [if_neg c24] at H
        exact absurd H (by simp)
      ·rw [if_neg c23] at H
       exact absurd H (by simp)
     ·rw [if_neg c21] at H
      have c21b0 : decide (0 < a0) = false := decide_eq_false c21
      clear c21
      by_cases c28 : 2 + 0 ≤ 9223372036854775807
      ·rw [if_pos c28] at H
       have c28b0 := eq_true c28
       have c28b1 : decide (2 + 0 ≤ 9223372036854775807) = true := decide_eq_true c28
       try have c28b2 : (9223372036854775807 < 2 + 0) = False := eq_false (Nat.not_lt.2 c28)
       by_cases c29 : 2 + 0 + 1 ≤ 9223372036854775807
       ·rw [if_pos c29] at H
        have c29b0 := eq_true c29
        have c29b1 : decide (2 + 0 + 1 ≤ 9223372036854775807) = true := decide_eq_true c29
        try have c29b2 : (9223372036854775807 < 2 + 0 + 1) = False := eq_false (Nat.not_lt.2 c29)
        by_cases c30 : 2 + 0 + 1 + 0 ≤ 9223372036854775807
        ·rw [if_pos c30] at H
         have c30b0 := eq_true c30
         have c30b1 : decide (2 + 0 + 1 + 0 ≤ 9223372036854775807) = true := decide_eq_true c30
         try have c30b2 : (9223372036854775807 < 2 + 0 + 1 + 0) = False := eq_false (Nat.not_lt.2 c30)
         by_cases c31 : 2 + 0 + 1 + 0 + 1 ≤ 9223372036854775807
         ·rw [if_pos c31] at H
          have c31b0 := eq_true c31
          have c31b1 : decide (2 + 0 + 1 + 0 + 1 ≤ 9223372036854775807) = true := decide_eq_true c31
          try have c31b2 : (9223372036854775807 < 2 + 0 + 1 + 0 + 1) = False := eq_false (Nat.not_lt.2 c31)
          obtain rfl := Option.some.inj H
          go_wp2
          go_ret
          exact ⟨by first | rfl | (simp [errW_none, errW_some] <;> rfl) | (simp [*, errW_none, errW_some] <;> rfl), by repeat (first | (with_reducible first | exact HB.out | apply below_alloc | apply pw_below_drewN | apply below_drew1) | exact HB.out)⟩
         ·rw [if_neg c31] at H
          exact absurd H (by simp)
        ·rw [if_neg c30] at H
         exact absurd H (by simp)
       ·rw [if_neg c29] at H
        exact absurd H (by simp)
      ·rw [if_neg c28] at H
       exact absurd H (by simp)
set_option maxHeartbeats 8000000 in
set_option maxRecDepth 100000 in
theorem xansi_HorizontalVerticalPosition.calls (a0 : Int) (a1 : Int) (r : ByteArray) (w : World) (hT : XTab w) (h : xansi_HorizontalVerticalPosition.f a0 a1 = some r) :
  Calls Tryz.prog 115 #[.int .i64 a0, .int .i64 a1] w fun e w' => e = .returned (.string r) ∧ Below w.heap.size w w' := by
 have HT := Aside0.mk hT
 clear hT
 have HB := Aside0.mk (Below.refl w.heap.size w)
 have H : (if a1 > 0 then ((strconv_Itoa.f a1).bind fun t133 => (if a0 > 0 then ((strconv_Itoa.f a0).bind fun t134 => (if 2 + t133.size ≤ 9223372036854775807 then (if 2 + t133.size + 1 ≤ 9223372036854775807 then (if 2 + t133.size + 1 + t134.size ≤ 9223372036854775807 then (if 2 + t133.size + 1 + t134.size + 1 ≤ 9223372036854775807 then (some (((((⟨#[27, 91]⟩ : ByteArray) ++ t133) ++ (⟨#[59]⟩ : ByteArray)) ++ t134) ++ (⟨#[102]⟩ : ByteArray))) else (none)) else (none)) else (none)) else (none))) else (if 2 + t133.size ≤ 9223372036854775807 then (if 2 + t133.size + 1 ≤ 9223372036854775807 then (if 2 + t133.size + 1 + 0 ≤ 9223372036854775807 then (if 2 + t133.size + 1 + 0 + 1 ≤ 9223372036854775807 then (some (((((⟨#[27, 91]⟩ : ByteArray) ++ t133) ++ (⟨#[59]⟩ : ByteArray)) ++ (⟨#[]⟩ : ByteArray)) ++ (⟨#[102]⟩ : ByteArray))) else (none)) else (none)) else (none)) else (none)))) else (if a0 > 0 then ((strconv_Itoa.f a0).bind fun t135 => (if 2 + 0 ≤ 9223372036854775807 then (if 2 + 0 + 1 ≤ 9223372036854775807 then (if 2 + 0 + 1 + t135.size ≤ 9223372036854775807 then (if 2 + 0 + 1 + t135.size + 1 ≤ 9223372036854775807 then (some (((((⟨#[27, 91]⟩ : ByteArray) ++ (⟨#[]⟩ : ByteArray)) ++ (⟨#[59]⟩ : ByteArray)) ++ t135) ++ (⟨#[102]⟩ : ByteArray))) else (none)) else (none)) else (none)) else (none))) else (if 2 + 0 ≤ 9223372036854775807 then (if 2 + 0 + 1 ≤ 9223372036854775807 then (if 2 + 0 + 1 + 0 ≤ 9223372036854775807 then (if 2 + 0 + 1 + 0 + 1 ≤ 9223372036854775807 then (some (((((⟨#[27, 91]⟩ : ByteArray) ++ (⟨#[]⟩ : ByteArray)) ++ (⟨#[59]⟩ : ByteArray)) ++ (⟨#[]⟩ : ByteArray)) ++ (⟨#[102]⟩ : ByteArray))) else (none)) else (none)) else (none)) else (none)))) = some r := h
 clear h
 by_cases c3 : a1 > 0
 ·rw [if_pos c3] at H
  have c3b0 : decide (0 < a1) = true := decide_eq_true c3
  clear c3
  replace H := Option.bind_eq_some_iff.mp H
  obtain ⟨t133, A40, H⟩ := H
  replace H : (if a0 > 0 then ((strconv_Itoa.f a0).bind fun t134 => (if 2 + t133.size ≤ 9223372036854775807 then (if 2 + t133.size + 1 ≤ 9223372036854775807 then (if 2 + t133.size + 1 + t134.size ≤ 9223372036854775807 then (if 2 + t133.size + 1 + t134.size + 1 ≤ 9223372036854775807 then (some (((((⟨#[27, 91]⟩ : ByteArray) ++ t133) ++ (⟨#[59]⟩ : ByteArray)) ++ t134) ++ (⟨#[102]⟩ : ByteArray))) else (none)) else (none)) else (none)) else (none))) else (if 2 + t133.size ≤ 9223372036854775807 then (if 2 + t133.size + 1 ≤ 9223372036854775807 then (if 2 + t133.size + 1 + 0 ≤ 9223372036854775807 then (if 2 + t133.size + 1 + 0 + 1 ≤ 9223372036854775807 then (some (((((⟨#[27, 91]⟩ : ByteArray) ++ t133) ++ (⟨#[59]⟩ : ByteArray)) ++ (⟨#[]⟩ : ByteArray)) ++ (⟨#[102]⟩ : ByteArray))) else (none)) else (none)) else (none)) else (none))) = some r := H
  have A4 := Aside0.mk A40
  clear A40
  by_cases c5 : a0 > 0
  ·rw [if_pos c5] at H
   have c5b0 : decide (0 < a0) = true := decide_eq_true c5
   clear c5
   replace H := Option.bind_eq_some_iff.mp H
   obtain ⟨t134, A60, H⟩ := H
   replace H : (if 2 + t133.size ≤ 9223372036854775807 then (if 2 + t133.size + 1 ≤ 9223372036854775807 then (if 2 + t133.size + 1 + t134.size ≤ 9223372036854775807 then (if 2 + t133.size + 1 + t134.size + 1 ≤ 9223372036854775807 then (some (((((⟨#[27, 91]⟩ : ByteArray) ++ t133) ++ (⟨#[59]⟩ : ByteArray)) ++ t134) ++ (⟨#[102]⟩ : ByteArray))) else (none)) else (none)) else (none)) else (none)) = some r := H
   have A6 := Aside0.mk A60
   clear A60
   by_cases c7 : 2 + t133.size ≤ 9223372036854775807
   ·rw [if_pos c7] at H
    have c7b0 := eq_true c7
    have c7b1 : decide (2 + t133.size ≤ 9223372036854775807) = true := decide_eq_true c7
    try have c7b2 : (9223372036854775807 < 2 + t133.size) = False := eq_false (Nat.not_lt.2 c7)
    by_cases c8 : 2 + t133.size + 1 ≤ 9223372036854775807
    ·rw [if_pos c8] at H
     have c8b0 := eq_true c8
     have c8b1 : decide (2 + t133.size + 1 ≤ 9223372036854775807) = true := decide_eq_true c8
     try have c8b2 : (9223372036854775807 < 2 + t133.size + 1) = False := eq_false (Nat.not_lt.2 c8)
     by_cases c9 : 2 + t133.size + 1 + t134.size ≤ 9223372036854775807
     ·rw [if_pos c9] at H
      have c9b0 := eq_true c9
      have c9b1 : decide (2 + t133.size + 1 + t134.size ≤ 9223372036854775807) = true := decide_eq_true c9
      try have c9b2 : (9223372036854775807 < 2 + t133.size + 1 + t134.size) = False := eq_false (Nat.not_lt.2 c9)
      by_cases c10 : 2 + t133.size + 1 + t134.size + 1 ≤ 9223372036854775807
      ·rw [if_pos c10] at H
       have c10b0 := eq_true c10
       have c10b1 : decide (2 + t133.size + 1 + t134.size + 1 ≤ 9223372036854775807) = true := decide_eq_true c10
       try have c10b2 : (9223372036854775807 < 2 + t133.size + 1 + t134.size + 1) = False := eq_false (Nat.not_lt.2 c10)
       obtain rfl := Option.some.inj H
       go_enter Tryz.func115, Tryz.ntmps115
       go_wp2_with (first | ((with_reducible refine gate_callee (f := 103) rfl ?_); refine goesL_ (some 10) rfl rfl Tryz.func103 (by kernel_rfl) rfl #[.int .i64 a1] rfl (by (try simp only [List.map_toArray, List.map_cons, List.map_nil]); first | done | rfl | (simp only [List.length_drop, List.length_take]; rfl)) ?_; (with_reducible refine (strconv_Itoa.calls a1 t133 _ ?side1 A4.out).mono ?_); (case side1 => exact XTab.below HT.out (by repeat (first | (with_reducible first | exact HB.out | apply below_alloc | apply pw_below_drewN | apply below_drew1) | exact HB.out))); rintro e w11 ⟨rfl, hb⟩; refine ⟨_, rfl, ?_⟩; have n0_ := Aside0.mk (below_step (by repeat (first | (with_reducible first | exact HB.out | apply below_alloc | apply pw_below_drewN | apply below_drew1) | exact HB.out)) hb); clear HB; have HB := n0_; clear n0_; (try clear hb); (try clear hb2); (try clear hk); (try clear hi)) | ((with_reducible refine gate_callee (f := 103) rfl ?_); refine goesL_ (some 14) rfl rfl Tryz.func103 (by kernel_rfl) rfl #[.int .i64 a0] rfl (by (try simp only [List.map_toArray, List.map_cons, List.map_nil]); first | done | rfl | (simp only [List.length_drop, List.length_take]; rfl)) ?_; (with_reducible refine (strconv_Itoa.calls a0 t134 _ ?side1 A6.out).mono ?_); (case side1 => exact XTab.below HT.out (by repeat (first | (with_reducible first | exact HB.out | apply below_alloc | apply pw_below_drewN | apply below_drew1) | exact HB.out))); rintro e w12 ⟨rfl, hb⟩; refine ⟨_, rfl, ?_⟩; have n0_ := Aside0.mk (below_step (by repeat (first | (with_reducible first | exact HB.out | apply below_alloc | apply pw_below_drewN | apply below_drew1) | exact HB.out)) hb); clear HB; have HB := n0_; clear n0_; (try clear hb); (try clear hb2); (try clear hk); (try clear hi)))
       go_ret
       exact ⟨by first | rfl | (simp [errW_none, errW_some] <;> rfl) | (simp [*, errW_none, errW_some] <;> rfl), by repeat (first | (with_reducible first | exact HB.out | apply below_alloc | apply pw_below_drewN | apply below_drew1) | exact HB.out)⟩
      ·rw [if_neg c10] at H
       exact absurd H (by simp)
     ·rw [if_neg c9] at H
      exact absurd H (by simp)
    ·rw [if_neg c8] at H
     exact absurd H (by simp)
   ·rw [if_neg c7] at H
    exact absurd H (by simp)
  ·rw [if_neg c5] at H
   have c5b0 : decide (0 < a0) = false := decide_eq_false c5
   clear c5
   by_cases c13 : 2 + t133.size ≤ 9223372036854775807
   ·rw [if_pos c13] at H
    have c13b0 := eq_true c13
    have c13b1 : decide (2 + t133.size ≤ 9223372036854775807) = true := decide_eq_true c13
    try have c13b2 : (9223372036854775807 < 2 + t133.size) = False := eq_false (Nat.not_lt.2 c13)
    by_cases c14 : 2 + t133.size + 1 ≤ 9223372036854775807
    ·rw [if_pos c14] at H
     have c14b0 := eq_true c14
     have c14b1 : decide (2 + t133.size + 1 ≤ 9223372036854775807) = true := decide_eq_true c14
     try have c14b2 : (9223372036854775807 < 2 + t133.size + 1) = False := eq_false (Nat.not_lt.2 c14)
     by_cases c15 : 2 + t133.size + 1 + 0 ≤ 9223372036854775807
     ·rw [if_pos c15] at H
      have c15b0 := eq_true c15
      have c15b1 : decide (2 + t133.size + 1 + 0 ≤ 9223372036854775807) = true := decide_eq_true c15
      try have c15b2 : (9223372036854775807 < 2 + t133.size + 1 + 0) = False := eq_false (Nat.not_lt.2 c15)
      by_cases c16 : 2 + t133.size + 1 + 0 + 1 ≤ 9223372036854775807
      ·rw [if_pos c16] at H
       have c16b0 := eq_true c16
       have c16b1 : decide (2 + t133.size + 1 + 0 + 1 ≤ 9223372036854775807) = true := decide_eq_true c16
       try have c16b2 : (9223372036854775807 < 2 + t133.size + 1 + 0 + 1) = False := eq_false (Nat.not_lt.2 c16)
       obtain rfl := Option.some.inj H
       go_enter Tryz.func115, Tryz.ntmps115
       go_wp2_with (first | ((with_reducible refine gate_callee (f := 103) rfl ?_); refine goesL_ (some 10) rfl rfl Tryz.func103 (by kernel_rfl) rfl #[.int .i64 a1] rfl (by (try simp only [List.map_toArray, List.map_cons, List.map_nil]); first | done | rfl | (simp only [List.length_drop, List.length_take]; rfl)) ?_; (with_reducible refine (strconv_Itoa.calls a1 t133 _ ?side1 A4.out).mono ?_); (case side1 => exact XTab.below HT.out (by repeat (first | (with_reducible first | exact HB.out | apply below_alloc | apply pw_below_drewN | apply below_drew1) | exact HB.out))); rintro e w17 ⟨rfl, hb⟩; refine ⟨_, rfl, ?_⟩; have n0_ := Aside0.mk (below_step (by repeat (first | (with_reducible first | exact HB.out | apply below_alloc | apply pw_below_drewN | apply below_drew1) | exact HB.out)) hb); clear HB; have HB := n0_; clear n0_; (try clear hb); (try clear hb2); (try clear hk); (try clear hi)))
       go_ret
       exact ⟨by first | rfl | (simp [errW_none, errW_some] <;> rfl) | (simp [*, errW_none, errW_some] <;> rfl), by repeat (first | (with_reducible first | exact HB.out | apply below_alloc | apply pw_below_drewN | apply below_drew1) | exact HB.out)⟩
      ·rw [if_neg c16] at H
       exact absurd H (by simp)
     ·rw [if_neg c15] at H
      exact absurd H (by simp)
    ·rw [if_neg c14] at H
     exact absurd H (by simp)
   ·rw [if_neg c13] at H
    exact absurd H (by simp)
 ·rw [if_neg c3] at H
  have c3b0 : decide (0 < a1) = false := decide_eq_false c3
  clear c3
  by_cases c18 : a0 > 0
  ·rw [if_pos c18] at H
   have c18b0 : decide (0 < a0) = true := decide_eq_true c18
   clear c18
   replace H := Option.bind_eq_some_iff.mp H
   obtain ⟨t135, A190, H⟩ := H
   replace H : (if 2 + 0 ≤ 9223372036854775807 then (if 2 + 0 + 1 ≤ 9223372036854775807 then (if 2 + 0 + 1 + t135.size ≤ 9223372036854775807 then (if 2 + 0 + 1 + t135.size + 1 ≤ 9223372036854775807 then (some (((((⟨#[27, 91]⟩ : ByteArray) ++ (⟨#[]⟩ : ByteArray)) ++ (⟨#[59]⟩ : ByteArray)) ++ t135) ++ (⟨#[102]⟩ : ByteArray))) else (none)) else (none)) else (none)) else (none)) = some r := H
   have A19 := Aside0.mk A190
   clear A190
   by_cases c20 : 2 + 0 ≤ 9223372036854775807
   ·rw [if_pos c20] at H
    have c20b0 := eq_true c20
    have c20b1 : decide (2 + 0 ≤ 9223372036854775807) = true := decide_eq_true c20
    try have c20b2 : (9223372036854775807 < 2 + 0) = False := eq_false (Nat.not_lt.2 c20)
    by_cases c21 : 2 + 0 + 1 ≤ 9223372036854775807
    ·rw [if_pos c21] at H
     have c21b0 := eq_true c21
     have c21b1 : decide (2 + 0 + 1 ≤ 9223372036854775807) = true := decide_eq_true c21
     try have c21b2 : (9223372036854775807 < 2 + 0 + 1) = False := eq_false (Nat.not_lt.2 c21)
     by_cases c22 : 2 + 0 + 1 + t135.size ≤ 9223372036854775807
     ·rw [if_pos c22] at H
      have c22b0 := eq_true c22
      have c22b1 : decide (2 + 0 + 1 + t135.size ≤ 9223372036854775807) = true := decide_eq_true c22
      try have c22b2 : (9223372036854775807 < 2 + 0 + 1 + t135.size) = False := eq_false (Nat.not_lt.2 c22)
      by_cases c23 : 2 + 0 + 1 + t135.size + 1 ≤ 9223372036854775807
      ·rw [if_pos c23] at H
       have c23b0 := eq_true c23
       have c23b1 : decide (2 + 0 + 1 + t135.size + 1 ≤ 9223372036854775807) = true := decide_eq_true c23
       try have c23b2 : (9223372036854775807 < 2 + 0 + 1 + t135.size + 1) = False := eq_false (Nat.not_lt.2 c23)
       obtain rfl := Option.some.inj H
       go_enter Tryz.func115, Tryz.ntmps115
       go_wp2_with (first | ((with_reducible refine gate_callee (f := 103) rfl ?_); refine goesL_ (some 14) rfl rfl Tryz.func103 (by kernel_rfl) rfl #[.int .i64 a0] rfl (by (try simp only [List.map_toArray, List.map_cons, List.map_nil]); first | done | rfl | (simp only [List.length_drop, List.length_take]; rfl)) ?_; (with_reducible refine (strconv_Itoa.calls a0 t135 _ ?side1 A19.out).mono ?_); (case side1 => exact XTab.below HT.out (by repeat (first | (with_reducible first | exact HB.out | apply below_alloc | apply pw_below_drewN | apply below_drew1) | exact HB.out))); rintro e w24 ⟨rfl, hb⟩; refine ⟨_, rfl, ?_⟩; have n0_ := Aside0.mk (below_step (by repeat (first | (with_reducible first | exact HB.out | apply below_alloc | apply pw_below_drewN | apply below_drew1) | exact HB.out)) hb); clear HB; have HB := n0_; clear n0_; (try clear hb); (try clear hb2); (try clear hk); (try clear hi)))
       go_ret
       exact ⟨by first | rfl | (simp [errW_none, errW_some] <;> rfl) | (simp [*, errW_none, errW_some] <;> rfl), by repeat (first | (with_reducible first | exact HB.out | apply below_alloc | apply pw_below_drewN | apply below_drew1) | exact HB.out)⟩
      ·rw [if_neg c23] at H
       exact absurd H (by simp)
     ·rw [if_neg c22] at H
      exact absurd H (by simp)
    ·rw [if_neg c21] at H
     exact absurd H (by simp)
   ·rw [if_neg c20] at H
    exact absurd H (by simp)
  ·rw [if_neg c18] at H
   have c18b0 : decide (0 < a0) = false := decide_eq_false c18
   clear c18
   by_cases c25 : 2 + 0 ≤ 9223372036854775807
   ·rw [if_pos c25] at H
    have c25b0 := eq_true c25
    have c25b1 : decide (2 + 0 ≤ 9223372036854775807) = true := decide_eq_true c25
    try have c25b2 : (9223372036854775807 < 2 + 0) = False := eq_false (Nat.not_lt.2 c25)
    by_cases c26 : 2 + 0 + 1 ≤ 9223372036854775807
    ·rw [if_pos c26] at H
     have c26b0 := eq_true c26
     have c26b1 : decide (2 + 0 + 1 ≤ 9223372036854775807) = true := decide_eq_true c26
     try have c26b2 : (9223372036854775807 < 2 + 0 + 1) = False := eq_false (Nat.not_lt.2 c26)
     by_cases c27 : 2 + 0 + 1 + 0 ≤ 9223372036854775807
     ·rw [if_pos c27] at H
      have c27b0 := eq_true c27
      have c27b1 : decide (2 + 0 + 1 + 0 ≤ 9223372036854775807) = true := decide_eq_true c27
      try have c27b2 : (9223372036854775807 < 2 + 0 + 1 + 0) = False := eq_false (Nat.not_lt.2 c27)
      by_cases c28 : 2 + 0 + 1 + 0 + 1 ≤ 9223372036854775807
      ·rw [if_pos c28] at H
       have c28b0 := eq_true c28
       have c28b1 : decide (2 + 0 + 1 + 0 + 1 ≤ 9223372036854775807) = true := decide_eq_true c28
       try have c28b2 : (9223372036854775807 < 2 + 0 + 1 + 0 + 1) = False := eq_false (Nat.not_lt.2 c28)
       obtain rfl := Option.some.inj H
       go_enter Tryz.func115, Tryz.ntmps115
       go_wp2
       go_ret
       exact ⟨by first | rfl | (simp [errW_none, errW_some] <;> rfl) | (simp [*, errW_none, errW_some] <;> rfl), by repeat (first | (with_reducible first | exact HB.out | apply below_alloc | apply pw_below_drewN | apply below_drew1) | exact HB.out)⟩
      ·rw [if_neg c28] at H
       exact absurd H (by simp)
     ·rw [if_neg c27] at H
      exact absurd H (by simp)
    ·rw [if_neg c26] at H
     exact absurd H (by simp)
   ·rw [if_neg c25] at H
    exact absurd H (by simp)
set_option maxHeartbeats 8000000 in
set_option maxRecDepth 100000 in
theorem xansi_SetTopBottomMargins.calls (a0 : Int) (a1 : Int) (r : ByteArray) (w : World) (hT : XTab w) (h : xansi_SetTopBottomMargins.f a0 a1 = some r) :
  Calls Tryz.prog 116 #[.int .i64 a0, .int .i64 a1] w fun e w' => e = .returned (.string r) ∧ Below w.heap.size w w' := by
 have HT := Aside0.mk hT
 clear hT
 have HB := Aside0.mk (Below.refl w.heap.size w)
 have H : (if a0 > 0 then ((strconv_Itoa.f a0).bind fun t136 => (if a1 > 0 then ((strconv_Itoa.f a1).bind fun t137 => (if 2 + t136.size ≤ 9223372036854775807 then (if 2 + t136.size + 1 ≤ 9223372036854775807 then (if 2 + t136.size + 1 + t137.size ≤ 9223372036854775807 then (if 2 + t136.size + 1 + t137.size + 1 ≤ 9223372036854775807 then (some (((((⟨#[27, 91]⟩ : ByteArray) ++ t136) ++ (⟨#[59]⟩ : ByteArray)) ++ t137) ++ (⟨#[114]⟩ : ByteArray))) else (none)) else (none)) else (none)) else (none))) else (if 2 + t136.size ≤ 9223372036854775807 then (if 2 + t136.size + 1 ≤ 9223372036854775807 then (if 2 + t136.size + 1 + 0 ≤ 9223372036854775807 then (if 2 + t136.size + 1 + 0 + 1 ≤ 9223372036854775807 then (some (((((⟨#[27, 91]⟩ : ByteArray) ++ t136) ++ (⟨#[59]⟩ : ByteArray)) ++ (⟨#[]⟩ : ByteArray)) ++ (⟨#[114]⟩ : ByteArray))) else (none)) else (none)) else (none)) else (none)))) else (if a1 > 0 then ((strconv_Itoa.f a1).bind fun t138 => (if 2 + 0 ≤ 9223372036854775807 then (if 2 + 0 + 1 ≤ 9223372036854775807 then (if 2 + 0 + 1 + t138.size ≤ 9223372036854775807 then (if 2 + 0 + 1 + t138.size + 1 ≤ 9223372036854775807 then (some (((((⟨#[27, 91]⟩ : ByteArray) ++ (⟨#[]⟩ : ByteArray)) ++ (⟨#[59]⟩ : ByteArray)) ++ t138) ++ (⟨#[114]⟩ : ByteArray))) else (none)) else (none)) else (none)) else (none))) else (if 2 + 0 ≤ 9223372036854775807 then (if 2 + 0 + 1 ≤ 9223372036854775807 then (if 2 + 0 + 1 + 0 ≤ 9223372036854775807 then (if 2 + 0 + 1 + 0 + 1 ≤ 9223372036854775807 then (some (((((⟨#[27, 91]⟩ : ByteArray) ++ (⟨#[]⟩ : ByteArray)) ++ (⟨#[59]⟩ : ByteArray)) ++ (⟨#[]⟩ : ByteArray)) ++ (⟨#[114]⟩ : ByteArray))) else (none)) else (none)) else (none)) else (none)))) = some r := h
 clear h
 by_cases c3 : a0 > 0
 ·rw [if_pos c3] at H
  have c3b0 : decide (0 < a0) = true := decide_eq_true c3
  clear c3
  replace H := Option.bind_eq_some_iff.mp H
  obtain ⟨t136, A40, H⟩ := H
  replace H : (if a1 > 0 then ((strconv_Itoa.f a1).bind fun t137 => (if 2 + t136.size ≤ 9223372036854775807 then (if 2 + t136.size + 1 ≤ 9223372036854775807 then (if 2 + t136.size + 1 + t137.size ≤ 9223372036854775807 then (if 2 + t136.size + 1 + t137.size + 1 ≤ 9223372036854775807 then (some (((((⟨#[27, 91]⟩ : ByteArray) ++ t136) ++ (⟨#[59]⟩ : ByteArray)) ++ t137) ++ (⟨#[114]⟩ : ByteArray))) else (none)) else (none)) else (none)) else (none))) else (if 2 + t136.size ≤ 9223372036854775807 then (if 2 + t136.size + 1 ≤ 9223372036854775807 then (if 2 + t136.size + 1 + 0 ≤ 9223372036854775807 then (if 2 + t136.size + 1 + 0 + 1 ≤ 9223372036854775807 then (some (((((⟨#[27, 91]⟩ : ByteArray) ++ t136) ++ (⟨#[59]⟩ : ByteArray)) ++ (⟨#[]⟩ : ByteArray)) ++ (⟨#[114]⟩ : ByteArray))) else (none)) else (none)) else (none)) else (none))) = some r := H
  have A4 := Aside0.mk A40
  clear A40
  by_cases c5 : a1 > 0
  ·rw [if_pos c5] at H
   have c5b0 : decide (0 < a1) = true := decide_eq_true c5
   clear c5
   replace H := Option.bind_eq_some_iff.mp H
   obtain ⟨t137, A60, H⟩ := H
   replace H : (if 2 + t136.size ≤ 9223372036854775807 then (if 2 + t136.size + 1 ≤ 9223372036854775807 then (if 2 + t136.size + 1 + t137.size ≤ 9223372036854775807 then (if 2 + t136.size + 1 + t137.size + 1 ≤ 9223372036854775807 then (some (((((⟨#[27, 91]⟩ : ByteArray) ++ t136) ++ (⟨#[59]⟩ : ByteArray)) ++ t137) ++ (⟨#[114]⟩ : ByteArray))) else (none)) else (none)) else (none)) else (none)) = some r := H
   have A6 := Aside0.mk A60
   clear A60
   by_cases c7 : 2 + t136.size ≤ 9223372036854775807
   ·rw [if_pos c7] at H
    have c7b0 := eq_true c7
    have c7b1 : decide (2 + t136.size ≤ 9223372036854775807) = true := decide_eq_true c7
    try have c7b2 : (9223372036854775807 < 2 + t136.size) = False := eq_false (Nat.not_lt.2 c7)
    by_cases c8 : 2 + t136.size + 1 ≤ 9223372036854775807
    ·rw [if_pos c8] at H
     have c8b0 := eq_true c8
     have c8b1 : decide (2 + t136.size + 1 ≤ 9223372036854775807) = true := decide_eq_true c8
     try have c8b2 : (9223372036854775807 < 2 + t136.size + 1) = False := eq_false (Nat.not_lt.2 c8)
     by_cases c9 : 2 + t136.size + 1 + t137.size ≤ 9223372036854775807
     ·rw [if_pos c9] at H
      have c9b0 := eq_true c9
      have c9b1 : decide (2 + t136.size + 1 + t137.size ≤ 9223372036854775807) = true := decide_eq_true c9
      try have c9b2 : (9223372036854775807 < 2 + t136.size + 1 + t137.size) = False := eq_false (Nat.not_lt.2 c9)
      by_cases c10 : 2 + t136.size + 1 + t137.size + 1 ≤ 9223372036854775807
      ·rw [if_pos c10] at H
       have c10b0 := eq_true c10
       have c10b1 : decide (2 + t136.size + 1 + t137.size + 1 ≤ 9223372036854775807) = true := decide_eq_true c10
       try have c10b2 : (9223372036854775807 < 2 + t136.size + 1 + t137.size + 1) = False := eq_false (Nat.not_lt.2 c10)
       obtain rfl := Option.some.inj H
       go_enter Tryz.func116, Tryz.ntmps116
       go_wp2_with (first | ((with_reducible refine gate_callee (f := 103) rfl ?_); refine goesL_ (some 10) rfl rfl Tryz.func103 (by kernel_rfl) rfl #[.int .i64 a0] rfl (by (try simp only [List.map_toArray, List.map_cons, List.map_nil]); first | done | rfl | (simp only [List.length_drop, List.length_take]; rfl)) ?_; (with_reducible refine (strconv_Itoa.calls a0 t136 _ ?side1 A4.out).mono ?_); (case side1 => exact XTab.below HT.out (by repeat (first | (with_reducible first | exact HB.out | apply below_alloc | apply pw_below_drewN | apply below_drew1) | exact HB.out))); rintro e w11 ⟨rfl, hb⟩; refine ⟨_, rfl, ?_⟩; have n0_ := Aside0.mk (below_step (by repeat (first | (with_reducible first | exact HB.out | apply below_alloc | apply pw_below_drewN | apply below_drew1) | exact HB.out)) hb); clear HB; have HB := n0_; clear n0_; (try clear hb); (try clear hb2); (try clear hk); (try clear hi)) | ((with_reducible refine gate_callee (f := 103) rfl ?_); refine goesL_ (some 14) rfl rfl Tryz.func103 (by kernel_rfl) rfl #[.int .i64 a1] rfl (by (try simp only [List.map_toArray, List.map_cons, List.map_nil]); first | done | rfl | (simp only [List.length_drop, List.length_take]; rfl)) ?_; (with_reducible refine (strconv_Itoa.calls a1 t137 _ ?side1 A6.out).mono ?_); (case side1 => exact XTab.below HT.out (by repeat (first | (with_reducible first | exact HB.out | apply below_alloc | apply pw_below_drewN | apply below_drew1) | exact HB.out))); rintro e w12 ⟨rfl, hb⟩; refine ⟨_, rfl, ?_⟩; have n0_ := Aside0.mk (below_step (by repeat (first | (with_reducible first | exact HB.out | apply below_alloc | apply pw_below_drewN | apply below_drew1) | exact HB.out)) hb); clear HB; have HB := n0_; clear n0_; (try clear hb); (try clear hb2); (try clear hk); (try clear hi)))
       go_ret
       exact ⟨by first | rfl | (simp [errW_none, errW_some] <;> rfl) | (simp [*, errW_none, errW_some] <;> rfl), by repeat (first | (with_reducible first | exact HB.out | apply below_alloc | apply pw_below_drewN | apply below_drew1) | exact HB.out)⟩
      ·rw [if_neg c10] at H
       exact absurd H (by simp)
     ·rw [if_neg c9] at H
      exact absurd H (by simp)
    ·rw [if_neg c8] at H
     exact absurd H (by simp)
   ·rw [if_neg c7] at H
    exact absurd H (by simp)
  ·rw [if_neg c5] at H
   have c5b0 : decide (0 < a1) = false := decide_eq_false c5
   clear c5
   by_cases c13 : 2 + t136.size ≤ 9223372036854775807
   ·rw [if_pos c13] at H
    have c13b0 := eq_true c13
    have c13b1 : decide (2 + t136.size ≤ 9223372036854775807) = true := decide_eq_true c13
    try have c13b2 : (9223372036854775807 < 2 + t136.size) = False := eq_false (Nat.not_lt.2 c13)
    by_cases c14 : 2 + t136.size + 1 ≤ 9223372036854775807
    ·rw [if_pos c14] at H
     have c14b0 := eq_true c14
     have c14b1 : decide (2 + t136.size + 1 ≤ 9223372036854775807) = true := decide_eq_true c14
     try have c14b2 : (9223372036854775807 < 2 + t136.size + 1) = False := eq_false (Nat.not_lt.2 c14)
     by_cases c15 : 2 + t136.size + 1 + 0 ≤ 9223372036854775807
     ·rw [if_pos c15] at H
      have c15b0 := eq_true c15
      have c15b1 : decide (2 + t136.size + 1 + 0 ≤ 9223372036854775807) = true := decide_eq_true c15
      try have c15b2 : (9223372036854775807 < 2 + t136.size + 1 + 0) = False := eq_false (Nat.not_lt.2 c15)
      by_cases c16 : 2 + t136.size + 1 + 0 + 1 ≤ 9223372036854775807
      ·rw [if_pos c16] at H
       have c16b0 := eq_true c16
       have c16b1 : decide (2 + t136.size + 1 + 0 + 1 ≤ 9223372036854775807) = true := decide_eq_true c16
       try have c16b2 : (9223372036854775807 < 2 + t136.size + 1 + 0 + 1) = False := eq_false (Nat.not_lt.2 c16)
       obtain rfl := Option.some.inj H
       go_enter Tryz.func116, Tryz.ntmps116
       go_wp2_with (first | ((with_reducible refine gate_callee (f := 103) rfl ?_); refine goesL_ (some 10) rfl rfl Tryz.func103 (by kernel_rfl) rfl #[.int .i64 a0] rfl (by (try simp only [List.map_toArray, List.map_cons, List.map_nil]); first | done | rfl | (simp only [List.length_drop, List.length_take]; rfl)) ?_; (with_reducible refine (strconv_Itoa.calls a0 t136 _ ?side1 A4.out).mono ?_); (case side1 => exact XTab.below HT.out (by repeat (first | (with_reducible first | exact HB.out | apply below_alloc | apply pw_below_drewN | apply below_drew1) | exact HB.out))); rintro e w17 ⟨rfl, hb⟩; refine ⟨_, rfl, ?_⟩; have n0_ := Aside0.mk (below_step (by repeat (first | (with_reducible first | exact HB.out | apply below_alloc | apply pw_below_drewN | apply below_drew1) | exact HB.out)) hb); clear HB; have HB := n0_; clear n0_; (try clear hb); (try clear hb2); (try clear hk); (try clear hi)))
       go_ret
       exact ⟨by first | rfl | (simp [errW_none, errW_some] <;> rfl) | (simp [*, errW_none, errW_some] <;> rfl), by repeat (first | (with_reducible first | exact HB.out | apply below_alloc | apply pw_below_drewN | apply below_drew1) | exact HB.out)⟩
      ·rw [if_neg c16] at H
       exact absurd H (by simp)
     ·rw [if_neg c15] at H
      exact absurd H (by simp)
    ·rw [if_neg c14] at H
     exact absurd H (by simp)
   ·rw [if_neg c13] at H
    exact absurd H (by simp)
 ·rw [if_neg c3] at H
  have c3b0 : decide (0 < a0) = false := decide_eq_false c3
  clear c3
  by_cases c18 : a1 > 0
  ·rw [if_pos c18] at H
   have c18b0 : decide (0 < a1) = true := decide_eq_true c18
   clear c18
   replace H := Option.bind_eq_some_iff.mp H
   obtain ⟨t138, A190, H⟩ := H
   replace H : (if 2 + 0 ≤ 9223372036854775807 then (if 2 + 0 + 1 ≤ 9223372036854775807 then (if 2 + 0 + 1 + t138.size ≤ 9223372036854775807 then (if 2 + 0 + 1 + t138.size + 1 ≤ 9223372036854775807 then (some (((((⟨#[27, 91]⟩ : ByteArray) ++ (⟨#[]⟩ : ByteArray)) ++ (⟨#[59]⟩ : ByteArray)) ++ t138) ++ (⟨#[114]⟩ : ByteArray))) else (none)) else (none)) else (none)) else (none)) = some r := H
   have A19 := Aside0.mk A190
   clear A190
   by_cases c20 : 2 + 0 ≤ 9223372036854775807
   ·rw [if_pos c20] at H
    have c20b0 := eq_true c20
    have c20b1 : decide (2 + 0 ≤ 9223372036854775807) = true := decide_eq_true c20
    try have c20b2 : (9223372036854775807 < 2 + 0) = False := eq_false (Nat.not_lt.2 c20)
    by_cases c21 : 2 + 0 + 1 ≤ 9223372036854775807
    ·rw [if_pos c21] at H
     have c21b0 := eq_true c21
     have c21b1 : decide (2 + 0 + 1 ≤ 9223372036854775807) = true := decide_eq_true c21
     try have c21b2 : (9223372036854775807 < 2 + 0 + 1) = False := eq_false (Nat.not_lt.2 c21)
     by_cases c22 : 2 + 0 + 1 + t138.size ≤ 9223372036854775807
     ·rw [if_pos c22] at H
      have c22b0 := eq_true c22
      have c22b1 : decide (2 + 0 + 1 + t138.size ≤ 9223372036854775807) = true := decide_eq_true c22
      try have c22b2 : (9223372036854775807 < 2 + 0 + 1 + t138.size) = False := eq_false (Nat.not_lt.2 c22)
      by_cases c23 : 2 + 0 + 1 + t138.size + 1 ≤ 9223372036854775807
      ·rw [if_pos c23] at H
       have c23b0 := eq_true c23
       have c23b1 : decide (2 + 0 + 1 + t138.size + 1 ≤ 9223372036854775807) = true := decide_eq_true c23
       try have c23b2 : (9223372036854775807 < 2 + 0 + 1 + t138.size + 1) = False := eq_false (Nat.not_lt.2 c23)
       obtain rfl := Option.some.inj H
       go_enter Tryz.func116, Tryz.ntmps116
       go_wp2_with (first | ((with_reducible refine gate_callee (f := 103) rfl ?_); refine goesL_ (some 14) rfl rfl Tryz.func103 (by kernel_rfl) rfl #[.int .i64 a1] rfl (by (try simp only [List.map_toArray, List.map_cons, List.map_nil]); first | done | rfl | (simp only [List.length_drop, List.length_take]; rfl)) ?_; (with_reducible refine (strconv_Itoa.calls a1 t138 _ ?side1 A19.out).mono ?_); (case side1 => exact XTab.below HT.out (by repeat (first | (with_reducible first | exact HB.out | apply below_alloc | apply pw_below_drewN | apply below_drew1) | exact HB.out))); rintro e w24 ⟨rfl, hb⟩; refine ⟨_, rfl, ?_⟩; have n0_ := Aside0.mk (below_step (by repeat (first | (with_reducible first | exact HB.out | apply below_alloc | apply pw_below_drewN | apply below_drew1) | exact HB.out)) hb); clear HB; have HB := n0_; clear n0_; (try clear hb); (try clear hb2); (try clear hk); (try clear hi)))
       go_ret
       exact ⟨by first | rfl | (simp [errW_none, errW_some] <;> rfl) | (simp [*, errW_none, errW_some] <;> rfl), by repeat (first | (with_reducible first | exact HB.out | apply below_alloc | apply pw_below_drewN | apply below_drew1) | exact HB.out)⟩
      ·rw [if_neg c23] at H
       exact absurd H (by simp)
     ·rw [if_neg c22] at H
      exact absurd H (by simp)
    ·rw [if_neg c21] at H
     exact absurd H (by simp)
   ·rw [if_neg c20] at H
    exact absurd H (by simp)
  ·rw [if_neg c18] at H
   have c18b0 : decide (0 < a1) = false := decide_eq_false c18
   clear c18
   by_cases c25 : 2 + 0 ≤ 9223372036854775807
   ·rw [if_pos c25] at H
    have c25b0 := eq_true c25
    have c25b1 : decide (2 + 0 ≤ 9223372036854775807) = true := decide_eq_true c25
    try have c25b2 : (9223372036854775807 < 2 + 0) = False := eq_false (Nat.not_lt.2 c25)
    by_cases c26 : 2 + 0 + 1 ≤ 9223372036854775807
    ·rw [if_pos c26] at H
     have c26b0 := eq_true c26
     have c26b1 : decide (2 + 0 + 1 ≤ 9223372036854775807) = true := decide_eq_true c26
     try have c26b2 : (9223372036854775807 < 2 + 0 + 1) = False := eq_false (Nat.not_lt.2 c26)
     by_cases c27 : 2 + 0 + 1 + 0 ≤ 9223372036854775807
     ·rw [if_pos c27] at H
      have c27b0 := eq_true c27
      have c27b1 : decide (2 + 0 + 1 + 0 ≤ 9223372036854775807) = true := decide_eq_true c27
      try have c27b2 : (9223372036854775807 < 2 + 0 + 1 + 0) = False := eq_false (Nat.not_lt.2 c27)
      by_cases c28 : 2 + 0 + 1 + 0 + 1 ≤ 9223372036854775807
      ·rw [if_pos c28] at H
       have c28b0 := eq_true c28
       have c28b1 : decide (2 + 0 + 1 + 0 + 1 ≤ 9223372036854775807) = true := decide_eq_true c28
       try have c28b2 : (9223372036854775807 < 2 + 0 + 1 + 0 + 1) = False := eq_false (Nat.not_lt.2 c28)
       obtain rfl := Option.some.inj H
       go_enter Tryz.func116, Tryz.ntmps116
       go_wp2
       go_ret
       exact ⟨by first | rfl | (simp [errW_none, errW_some] <;> rfl) | (simp [*, errW_none, errW_some] <;> rfl), by repeat (first | (with_reducible first | exact HB.out | apply below_alloc | apply pw_below_drewN | apply below_drew1) | exact HB.out)⟩
      ·rw [if_neg c28] at H
       exact absurd H (by simp)
     ·rw [if_neg c27] at H
      exact absurd H (by simp)
    ·rw [if_neg c26] at H
     exact absurd H (by simp)
   ·rw [if_neg c25] at H
    exact absurd H (by simp)
end Go.Proofs.YteebhoehflgfoaaGreatDoor.Y
end
