/- Texts of this claim, joined: Y52 Y53 Y54 Y55 Y56 Y57. Of each, what the claim uses. -/
import Derived.Test.YtjkjnhcnmjknmaaDoorKad
import Derived.Test.YtjkjnhcnmjknmaaDoorKba
import Derived.Test.YtjkjnhcnmjknmaaDoorKax
section
namespace Go.Proofs.YtjkjnhcnmjknmaaDoor.Y
open Go.RowKit Go.Proofs.YtjkjnhcnmjknmaaDoorW.PrintWords Go.Proofs.YtjkjnhcnmjknmaaDoorW.PrintLast Go.Proofs.YtjkjnhcnmjknmaaDoorW.PrintMore
attribute [local go_sem] max2_int min2_int max_two min_two max_three min_three max_four min_four   -- for this text's walks alone
set_option linter.unusedVariables false
set_option linter.unusedSimpArgs false
set_option maxHeartbeats 8000000 in
set_option maxRecDepth 100000 in
theorem xansi_SetClipboard.calls (k : Nat) (a0 : Int) (a1 : ByteArray) (r : ByteArray) (w : World) (h : xansi_SetClipboard.f k a0 a1 = some r) :
    Calls Tryd.prog 56 #[.int .u8 a0, .string a1] w fun e w' => e = .returned (.string r) ∧ Below w.heap.size w w' := by
  have HB := Aside0.mk (Below.refl w.heap.size w)
  have H : (if a1.toList = ([] : List UInt8) then (if 5 + (Utf8.encode a0).size ≤ 9223372036854775807 then (if 5 + (Utf8.encode a0).size + 1 ≤ 9223372036854775807 then (if 5 + (Utf8.encode a0).size + 1 + a1.size ≤ 9223372036854775807 then (if 5 + (Utf8.encode a0).size + 1 + a1.size + 1 ≤ 9223372036854775807 then (some (((((⟨#[27, 93, 53, 50, 59]⟩ : ByteArray) ++ (Utf8.encode a0)) ++ (⟨#[59]⟩ : ByteArray)) ++ a1) ++ (⟨#[7]⟩ : ByteArray))) else (none)) else (none)) else (none)) else (none)) else ((xansi_zzBase64.f k a1).bind fun t199 => (if 5 + (Utf8.encode a0).size ≤ 9223372036854775807 then (if 5 + (Utf8.encode a0).size + 1 ≤ 9223372036854775807 then (if 5 + (Utf8.encode a0).size + 1 + t199.size ≤ 9223372036854775807 then (if 5 + (Utf8.encode a0).size + 1 + t199.size + 1 ≤ 9223372036854775807 then (some (((((⟨#[27, 93, 53, 50, 59]⟩ : ByteArray) ++ (Utf8.encode a0)) ++ (⟨#[59]⟩ : ByteArray)) ++ t199) ++ (⟨#[7]⟩ : ByteArray))) else (none)) else (none)) else (none)) else (none)))) = some r := h
  clear h
  by_cases c3 : a1.toList = ([] : List UInt8)
  · rw [if_pos c3] at H
    have c3b0 : (a1.toList == ([] : List UInt8)) = true := beq_iff_eq.mpr c3
    have c3b1 : (a1.toList != ([] : List UInt8)) = false := bne_eq_false_iff_eq.mpr c3
    clear c3
    by_cases c4 : 5 + (Utf8.encode a0).size ≤ 9223372036854775807
    · rw [if_pos c4] at H
      have c4b0 := eq_true c4
      have c4b1 : decide (5 + (Utf8.encode a0).size ≤ 9223372036854775807) = true := decide_eq_true c4
      try have c4b2 : (9223372036854775807 < 5 + (Utf8.encode a0).size) = False := eq_false (Nat.not_lt.2 c4)
      by_cases c5 : 5 + (Utf8.encode a0).size + 1 ≤ 9223372036854775807
      · rw [if_pos c5] at H
        have c5b0 := eq_true c5
        have c5b1 : decide (5 + (Utf8.encode a0).size + 1 ≤ 9223372036854775807) = true := decide_eq_true c5
        try have c5b2 : (9223372036854775807 < 5 + (Utf8.encode a0).size + 1) = False := eq_false (Nat.not_lt.2 c5)
        by_cases c6 : 5 + (Utf8.encode a0).size + 1 + a1.size ≤ 9223372036854775807
        · rw [if_pos c6] at H
          have c6b0 := eq_true c6
          have c6b1 : decide (5 + (Utf8.encode a0).size + 1 + a1.size ≤ 9223372036854775807) = true := decide_eq_true c6
          try have c6b2 : (9223372036854775807 < 5 + (Utf8.encode a0).size + 1 + a1.size) = False := eq_false (Nat.not_lt.2 c6)
          by_cases c7 : 5 + (Utf8.encode a0).size + 1 + a1.size + 1 ≤ 9223372036854775807
          · rw [if_pos c7] at H
            have c7b0 := eq_true c7
            have c7b1 : decide (5 + (Utf8.encode a0).size + 1 + a1.size + 1 ≤ 9223372036854775807) = true := decide_eq_true c7
            try have c7b2 : (9223372036854775807 < 5 + (Utf8.encode a0).size + 1 + a1.size + 1) = False := eq_false (Nat.not_lt.2 c7)
            obtain rfl := Option.some.inj H
            go_enter Tryd.func56, Tryd.ntmps56
            go_wp2
            go_ret
            exact ⟨by first | rfl | (simp [errW_none, errW_some] <;> rfl) | (simp [*, errW_none, errW_some] <;> rfl), by repeat (first | (with_reducible first | exact HB.out | apply below_alloc | apply pw_below_drewN | apply below_drew1) | exact HB.out)⟩
          · rw [if_neg c7] at H
            exact absurd H (by simp)
        · rw [if_neg c6] at H
          exact absurd H (by simp)
      · rw [if_neg c5] at H
        exact absurd H (by simp)
    · rw [if_neg c4] at H
      exact absurd H (by simp)
  · rw [if_neg c3] at H
    have c3b0 : (a1.toList == ([] : List UInt8)) = false := beq_eq_false_iff_ne.mpr c3
    have c3b1 : (a1.toList != ([] : List UInt8)) = true := bne_iff_ne.mpr c3
    replace H := Option.bind_eq_some_iff.mp H
    obtain ⟨t199, A80, H⟩ := H
    replace H : (if 5 + (Utf8.encode a0).size ≤ 9223372036854775807 then (if 5 + (Utf8.encode a0).size + 1 ≤ 9223372036854775807 then (if 5 + (Utf8.encode a0).size + 1 + t199.size ≤ 9223372036854775807 then (if 5 + (Utf8.encode a0).size + 1 + t199.size + 1 ≤ 9223372036854775807 then (some (((((⟨#[27, 93, 53, 50, 59]⟩ : ByteArray) ++ (Utf8.encode a0)) ++ (⟨#[59]⟩ : ByteArray)) ++ t199) ++ (⟨#[7]⟩ : ByteArray))) else (none)) else (none)) else (none)) else (none)) = some r := H
    have A8 := Aside0.mk A80
    clear A80
    by_cases c9 : 5 + (Utf8.encode a0).size ≤ 9223372036854775807
    · rw [if_pos c9] at H
      have c9b0 := eq_true c9
      have c9b1 : decide (5 + (Utf8.encode a0).size ≤ 9223372036854775807) = true := decide_eq_true c9
      try have c9b2 : (9223372036854775807 < 5 + (Utf8.encode a0).size) = False := eq_false (Nat.not_lt.2 c9)
      by_cases c10 : 5 + (Utf8.encode a0).size + 1 ≤ 9223372036854775807
      · rw [if_pos c10] at H
        have c10b0 := eq_true c10
        have c10b1 : decide (5 + (Utf8.encode a0).size + 1 ≤ 9223372036854775807) = true := decide_eq_true c10
        try have c10b2 : (9223372036854775807 < 5 + (Utf8.encode a0).size + 1) = False := eq_false (Nat.not_lt.2 c10)
        by_cases c11 : 5 + (Utf8.encode a0).size + 1 + t199.size ≤ 9223372036854775807
        · rw [if_pos c11] at H
          have c11b0 := eq_true c11
          have c11b1 : decide (5 + (Utf8.encode a0).size + 1 + t199.size ≤ 9223372036854775807) = true := decide_eq_true c11
          try have c11b2 : (9223372036854775807 < 5 + (Utf8.encode a0).size + 1 + t199.size) = False := eq_false (Nat.not_lt.2 c11)
          by_cases c12 : 5 + (Utf8.encode a0).size + 1 + t199.size + 1 ≤ 9223372036854775807
          · rw [if_pos c12] at H
            have c12b0 := eq_true c12
            have c12b1 : decide (5 + (Utf8.encode a0).size + 1 + t199.size + 1 ≤ 9223372036854775807) = true := decide_eq_true c12
            try have c12b2 : (9223372036854775807 < 5 + (Utf8.encode a0).size + 1 + t199.size + 1) = False := eq_false (Nat.not_lt.2 c12)
            obtain rfl := Option.some.inj H
            go_enter Tryd.func56, Tryd.ntmps56
            go_wp2_with (first | ((with_reducible refine gate_callee (f := 80) rfl ?_); refine goesL_ (some 8) rfl rfl Tryd.func80 (by kernel_rfl) rfl #[.string a1] rfl (by (try simp only [List.map_toArray, List.map_cons, List.map_nil]); first | done | rfl | (simp only [List.length_drop, List.length_take]; rfl)) ?_; (with_reducible refine (xansi_zzBase64.calls k a1 t199 _ A8.out).mono ?_); rintro e w13 ⟨rfl, hb⟩; refine ⟨_, rfl, ?_⟩; have n0_ := Aside0.mk (below_step (by repeat (first | (with_reducible first | exact HB.out | apply below_alloc | apply pw_below_drewN | apply below_drew1) | exact HB.out)) hb); clear HB; have HB := n0_; clear n0_; (try clear hb); (try clear hb2); (try clear hk); (try clear hi)))
            go_ret
            exact ⟨by first | rfl | (simp [errW_none, errW_some] <;> rfl) | (simp [*, errW_none, errW_some] <;> rfl), by repeat (first | (with_reducible first | exact HB.out | apply below_alloc | apply pw_below_drewN | apply below_drew1) | exact HB.out)⟩
          · rw [if_neg c12] at H
            exact absurd H (by simp)
        · rw [if_neg c11] at H
          exact absurd H (by simp)
      · rw [if_neg c10] at H
        exact absurd H (by simp)
    · rw [if_neg c9] at H
      exact absurd H (by simp)
end Go.Proofs.YtjkjnhcnmjknmaaDoor.Y
end
section
namespace Go.Proofs.YtjkjnhcnmjknmaaDoor.Y
open Go.RowKit Go.Proofs.YtjkjnhcnmjknmaaDoorW.PrintWords Go.Proofs.YtjkjnhcnmjknmaaDoorW.PrintLast Go.Proofs.YtjkjnhcnmjknmaaDoorW.PrintMore
attribute [local go_sem] max2_int min2_int max_two min_two max_three min_three max_four min_four   -- for this text's walks alone
set_option linter.unusedVariables false
set_option linter.unusedSimpArgs false
set_option maxHeartbeats 8000000 in
set_option maxRecDepth 100000 in
theorem xansi_RequestClipboard.calls (a0 : Int) (r : ByteArray) (w : World) (h : xansi_RequestClipboard.f a0 = some r) :
    Calls Tryd.prog 57 #[.int .u8 a0] w fun e w' => e = .returned (.string r) ∧ Drawn0 w w' := by
  have H : (if 5 + (Utf8.encode a0).size ≤ 9223372036854775807 then (if 5 + (Utf8.encode a0).size + 3 ≤ 9223372036854775807 then (some (((⟨#[27, 93, 53, 50, 59]⟩ : ByteArray) ++ (Utf8.encode a0)) ++ (⟨#[59, 63, 7]⟩ : ByteArray))) else (none)) else (none)) = some r := h
  clear h
  by_cases c2 : 5 + (Utf8.encode a0).size ≤ 9223372036854775807
  · rw [if_pos c2] at H
    have c2b0 := eq_true c2
    have c2b1 : decide (5 + (Utf8.encode a0).size ≤ 9223372036854775807) = true := decide_eq_true c2
    try have c2b2 : (9223372036854775807 < 5 + (Utf8.encode a0).size) = False := eq_false (Nat.not_lt.2 c2)
    by_cases c3 : 5 + (Utf8.encode a0).size + 3 ≤ 9223372036854775807
    · rw [if_pos c3] at H
      have c3b0 := eq_true c3
      have c3b1 : decide (5 + (Utf8.encode a0).size + 3 ≤ 9223372036854775807) = true := decide_eq_true c3
      try have c3b2 : (9223372036854775807 < 5 + (Utf8.encode a0).size + 3) = False := eq_false (Nat.not_lt.2 c3)
      obtain rfl := Option.some.inj H
      go_enter Tryd.func57, Tryd.ntmps57
      go_wp2
      go_ret
      exact ⟨by first | rfl | (simp; done) | (simp [*]; done), by repeat (first | exact Drawn0.refl _ | apply Drawn0.step)⟩
    · rw [if_neg c3] at H
      exact absurd H (by simp)
  · rw [if_neg c2] at H
    exact absurd H (by simp)
end Go.Proofs.YtjkjnhcnmjknmaaDoor.Y
end
section
namespace Go.Proofs.YtjkjnhcnmjknmaaDoor.Y
open Go.RowKit Go.Proofs.YtjkjnhcnmjknmaaDoorW.PrintWords Go.Proofs.YtjkjnhcnmjknmaaDoorW.PrintLast Go.Proofs.YtjkjnhcnmjknmaaDoorW.PrintMore
attribute [local go_sem] max2_int min2_int max_two min_two max_three min_three max_four min_four   -- for this text's walks alone
set_option linter.unusedVariables false
set_option linter.unusedSimpArgs false
set_option maxHeartbeats 8000000 in
set_option maxRecDepth 100000 in
theorem xansi_ResetClipboard.calls (k : Nat) (a0 : Int) (r : ByteArray) (w : World) (h : xansi_ResetClipboard.f k a0 = some r) :
    Calls Tryd.prog 58 #[.int .u8 a0] w fun e w' => e = .returned (.string r) ∧ Below w.heap.size w w' := by
  have HB := Aside0.mk (Below.refl w.heap.size w)
  have H : ((xansi_SetClipboard.f k a0 (⟨#[]⟩ : ByteArray)).bind fun t200 => (some t200)) = some r := h
  clear h
  replace H := Option.bind_eq_some_iff.mp H
  obtain ⟨t200, A20, H⟩ := H
  replace H : (some t200) = some r := H
  have A2 := Aside0.mk A20
  clear A20
  obtain rfl := Option.some.inj H
  go_enter Tryd.func58, Tryd.ntmps58
  go_wp2_with (first | ((with_reducible refine gate_callee (f := 56) rfl ?_); refine goesL_ (some 4) rfl rfl Tryd.func56 (by kernel_rfl) rfl #[.int .u8 a0, .string (⟨#[]⟩ : ByteArray)] rfl (by (try simp only [List.map_toArray, List.map_cons, List.map_nil]); first | done | rfl | (simp only [List.length_drop, List.length_take]; rfl)) ?_; (with_reducible refine (xansi_SetClipboard.calls k a0 (⟨#[]⟩ : ByteArray) t200 _ A2.out).mono ?_); rintro e w3 ⟨rfl, hb⟩; refine ⟨_, rfl, ?_⟩; have n0_ := Aside0.mk (below_step (by repeat (first | (with_reducible first | exact HB.out | apply below_alloc | apply pw_below_drewN | apply below_drew1) | exact HB.out)) hb); clear HB; have HB := n0_; clear n0_; (try clear hb); (try clear hb2); (try clear hk); (try clear hi)))
  go_ret
  exact ⟨by first | rfl | (simp [errW_none, errW_some] <;> rfl) | (simp [*, errW_none, errW_some] <;> rfl), by repeat (first | (with_reducible first | exact HB.out | apply below_alloc | apply pw_below_drewN | apply below_drew1) | exact HB.out)⟩
end Go.Proofs.YtjkjnhcnmjknmaaDoor.Y
end
section
namespace Go.Proofs.YtjkjnhcnmjknmaaDoor.Y
open Go.RowKit Go.Proofs.YtjkjnhcnmjknmaaDoorW.PrintWords Go.Proofs.YtjkjnhcnmjknmaaDoorW.PrintLast Go.Proofs.YtjkjnhcnmjknmaaDoorW.PrintMore
attribute [local go_sem] max2_int min2_int max_two min_two max_three min_three max_four min_four   -- for this text's walks alone
set_option linter.unusedVariables false
set_option linter.unusedSimpArgs false
set_option maxHeartbeats 8000000 in
set_option maxRecDepth 100000 in
theorem xansi_SetSystemClipboard.calls (k : Nat) (a0 : ByteArray) (r : ByteArray) (w : World) (h : xansi_SetSystemClipboard.f k a0 = some r) :
    Calls Tryd.prog 59 #[.string a0] w fun e w' => e = .returned (.string r) ∧ Below w.heap.size w w' := by
  have HB := Aside0.mk (Below.refl w.heap.size w)
  have H : ((xansi_SetClipboard.f k 99 a0).bind fun t201 => (some t201)) = some r := h
  clear h
  replace H := Option.bind_eq_some_iff.mp H
  obtain ⟨t201, A20, H⟩ := H
  replace H : (some t201) = some r := H
  have A2 := Aside0.mk A20
  clear A20
  obtain rfl := Option.some.inj H
  go_enter Tryd.func59, Tryd.ntmps59
  go_wp2_with (first | ((with_reducible refine gate_callee (f := 56) rfl ?_); refine goesL_ (some 4) rfl rfl Tryd.func56 (by kernel_rfl) rfl #[.int .u8 99, .string a0] rfl (by (try simp only [List.map_toArray, List.map_cons, List.map_nil]); first | done | rfl | (simp only [List.length_drop, List.length_take]; rfl)) ?_; (with_reducible refine (xansi_SetClipboard.calls k 99 a0 t201 _ A2.out).mono ?_); rintro e w3 ⟨rfl, hb⟩; refine ⟨_, rfl, ?_⟩; have n0_ := Aside0.mk (below_step (by repeat (first | (with_reducible first | exact HB.out | apply below_alloc | apply pw_below_drewN | apply below_drew1) | exact HB.out)) hb); clear HB; have HB := n0_; clear n0_; (try clear hb); (try clear hb2); (try clear hk); (try clear hi)))
  go_ret
  exact ⟨by first | rfl | (simp [errW_none, errW_some] <;> rfl) | (simp [*, errW_none, errW_some] <;> rfl), by repeat (first | (with_reducible first | exact HB.out | apply below_alloc | apply pw_below_drewN | apply below_drew1) | exact HB.out)⟩
end Go.Proofs.YtjkjnhcnmjknmaaDoor.Y
end
section
namespace Go.Proofs.YtjkjnhcnmjknmaaDoor.Y
open Go.RowKit Go.Proofs.YtjkjnhcnmjknmaaDoorW.PrintWords Go.Proofs.YtjkjnhcnmjknmaaDoorW.PrintLast Go.Proofs.YtjkjnhcnmjknmaaDoorW.PrintMore
attribute [local go_sem] max2_int min2_int max_two min_two max_three min_three max_four min_four   -- for this text's walks alone
set_option linter.unusedVariables false
set_option linter.unusedSimpArgs false
set_option maxHeartbeats 8000000 in
set_option maxRecDepth 100000 in
theorem xansi_SetPrimaryClipboard.calls (k : Nat) (a0 : ByteArray) (r : ByteArray) (w : World) (h : xansi_SetPrimaryClipboard.f k a0 = some r) :
    Calls Tryd.prog 60 #[.string a0] w fun e w' => e = .returned (.string r) ∧ Below w.heap.size w w' := by
  have HB := Aside0.mk (Below.refl w.heap.size w)
  have H : ((xansi_SetClipboard.f k 112 a0).bind fun t202 => (some t202)) = some r := h
  clear h
  replace H := Option.bind_eq_some_iff.mp H
  obtain ⟨t202, A20, H⟩ := H
  replace H : (some t202) = some r := H
  have A2 := Aside0.mk A20
  clear A20
  obtain rfl := Option.some.inj H
  go_enter Tryd.func60, Tryd.ntmps60
  go_wp2_with (first | ((with_reducible refine gate_callee (f := 56) rfl ?_); refine goesL_ (some 4) rfl rfl Tryd.func56 (by kernel_rfl) rfl #[.int .u8 112, .string a0] rfl (by (try simp only [List.map_toArray, List.map_cons, List.map_nil]); first | done | rfl | (simp only [List.length_drop, List.length_take]; rfl)) ?_; (with_reducible refine (xansi_SetClipboard.calls k 112 a0 t202 _ A2.out).mono ?_); rintro e w3 ⟨rfl, hb⟩; refine ⟨_, rfl, ?_⟩; have n0_ := Aside0.mk (below_step (by repeat (first | (with_reducible first | exact HB.out | apply below_alloc | apply pw_below_drewN | apply below_drew1) | exact HB.out)) hb); clear HB; have HB := n0_; clear n0_; (try clear hb); (try clear hb2); (try clear hk); (try clear hi)))
  go_ret
  exact ⟨by first | rfl | (simp [errW_none, errW_some] <;> rfl) | (simp [*, errW_none, errW_some] <;> rfl), by repeat (first | (with_reducible first | exact HB.out | apply below_alloc | apply pw_below_drewN | apply below_drew1) | exact HB.out)⟩
end Go.Proofs.YtjkjnhcnmjknmaaDoor.Y
end
section
namespace Go.Proofs.YtjkjnhcnmjknmaaDoor.Y
open Go.RowKit Go.Proofs.YtjkjnhcnmjknmaaDoorW.PrintWords Go.Proofs.YtjkjnhcnmjknmaaDoorW.PrintLast Go.Proofs.YtjkjnhcnmjknmaaDoorW.PrintMore
attribute [local go_sem] max2_int min2_int max_two min_two max_three min_three max_four min_four   -- for this text's walks alone
set_option linter.unusedVariables false
set_option linter.unusedSimpArgs false
set_option maxHeartbeats 8000000 in
set_option maxRecDepth 100000 in
theorem impl_MakeClipboard.calls (k : Nat) (a0 : Int) (a1 : Int) (a2 : ByteArray) (r : ByteArray) (w : World) (h : impl_MakeClipboard.f k a0 a1 a2 = some r) :
    Calls Tryd.prog 14 #[.int .i64 a0, .int .u8 a1, .string a2] w fun e w' => e = .returned (.string r) ∧ Below w.heap.size w w' := by
  have HB := Aside0.mk (Below.refl w.heap.size w)
  have H : (if a0 = 0 then ((xansi_SetClipboard.f k a1 a2).bind fun t203 => (some t203)) else (if a0 = 1 then ((xansi_RequestClipboard.f a1).bind fun t204 => (some t204)) else (if a0 = 2 then ((xansi_ResetClipboard.f k a1).bind fun t205 => (some t205)) else (if a0 = 3 then ((xansi_SetSystemClipboard.f k a2).bind fun t206 => (some t206)) else (if a0 = 4 then ((xansi_SetPrimaryClipboard.f k a2).bind fun t207 => (some t207)) else (some (⟨#[]⟩ : ByteArray))))))) = some r := h
  clear h
  by_cases c4 : a0 = 0
  · rw [if_pos c4] at H
    have c4b0 : (a0 == 0) = true := beq_iff_eq.mpr c4
    have c4b1 : (a0 != 0) = false := bne_eq_false_iff_eq.mpr c4
    clear c4
    replace H := Option.bind_eq_some_iff.mp H
    obtain ⟨t203, A50, H⟩ := H
    replace H : (some t203) = some r := H
    have A5 := Aside0.mk A50
    clear A50
    obtain rfl := Option.some.inj H
    go_enter Tryd.func14, Tryd.ntmps14
    go_wp2_with (first | ((with_reducible refine gate_callee (f := 56) rfl ?_); refine goesL_ (some 12) rfl rfl Tryd.func56 (by kernel_rfl) rfl #[.int .u8 a1, .string a2] rfl (by (try simp only [List.map_toArray, List.map_cons, List.map_nil]); first | done | rfl | (simp only [List.length_drop, List.length_take]; rfl)) ?_; (with_reducible refine (xansi_SetClipboard.calls k a1 a2 t203 _ A5.out).mono ?_); rintro e w6 ⟨rfl, hb⟩; refine ⟨_, rfl, ?_⟩; have n0_ := Aside0.mk (below_step (by repeat (first | (with_reducible first | exact HB.out | apply below_alloc | apply pw_below_drewN | apply below_drew1) | exact HB.out)) hb); clear HB; have HB := n0_; clear n0_; (try clear hb); (try clear hb2); (try clear hk); (try clear hi)))
    go_ret
    exact ⟨by first | rfl | (simp [errW_none, errW_some] <;> rfl) | (simp [*, errW_none, errW_some] <;> rfl), by repeat (first | (with_reducible first | exact HB.out | apply below_alloc | apply pw_below_drewN | apply below_drew1) | exact HB.out)⟩
  · rw [if_neg c4] at H
    have c4b0 : (a0 == 0) = false := beq_eq_false_iff_ne.mpr c4
    have c4b1 : (a0 != 0) = true := bne_iff_ne.mpr c4
    by_cases c7 : a0 = 1
    · rw [if_pos c7] at H
      have c7b0 : (a0 == 1) = true := beq_iff_eq.mpr c7
      have c7b1 : (a0 != 1) = false := bne_eq_false_iff_eq.mpr c7
      clear c7
      replace H := Option.bind_eq_some_iff.mp H
      obtain ⟨t204, A80, H⟩ := H
      replace H : (some t204) = some r := H
      have A8 := Aside0.mk A80
      clear A80
      obtain rfl := Option.some.inj H
      go_enter Tryd.func14, Tryd.ntmps14
      go_wp2_with (first | ((with_reducible refine gate_callee (f := 57) rfl ?_); refine goesL_ (some 16) rfl rfl Tryd.func57 (by kernel_rfl) rfl #[.int .u8 a1] rfl (by (try simp only [List.map_toArray, List.map_cons, List.map_nil]); first | done | rfl | (simp only [List.length_drop, List.length_take]; rfl)) ?_; (with_reducible refine (xansi_RequestClipboard.calls a1 t204 _ A8.out).mono ?_); rintro e w' ⟨rfl, ⟨nd, rfl⟩⟩; refine ⟨_, rfl, ?_⟩))
      go_ret
      exact ⟨by first | rfl | (simp [errW_none, errW_some] <;> rfl) | (simp [*, errW_none, errW_some] <;> rfl), by repeat (first | (with_reducible first | exact HB.out | apply below_alloc | apply pw_below_drewN | apply below_drew1) | exact HB.out)⟩
    · rw [if_neg c7] at H
      have c7b0 : (a0 == 1) = false := beq_eq_false_iff_ne.mpr c7
      have c7b1 : (a0 != 1) = true := bne_iff_ne.mpr c7
      by_cases c9 : a0 = 2
      · rw [if_pos c9] at H
        have c9b0 : (a0 == 2) = true := beq_iff_eq.mpr c9
        have c9b1 : (a0 != 2) = false := bne_eq_false_iff_eq.mpr c9
        clear c9
        replace H := Option.bind_eq_some_iff.mp H
        obtain ⟨t205, A100, H⟩ := H
        replace H : (some t205) = some r := H
        have A10 := Aside0.mk A100
        clear A100
        obtain rfl := Option.some.inj H
        go_enter Tryd.func14, Tryd.ntmps14
        go_wp2_with (first | ((with_reducible refine gate_callee (f := 58) rfl ?_); refine goesL_ (some 20) rfl rfl Tryd.func58 (by kernel_rfl) rfl #[.int .u8 a1] rfl (by (try simp only [List.map_toArray, List.map_cons, List.map_nil]); first | done | rfl | (simp only [List.length_drop, List.length_take]; rfl)) ?_; (with_reducible refine (xansi_ResetClipboard.calls k a1 t205 _ A10.out).mono ?_); rintro e w11 ⟨rfl, hb⟩; refine ⟨_, rfl, ?_⟩; have n0_ := Aside0.mk (below_step (by repeat (first | (with_reducible first | exact HB.out | apply below_alloc | apply pw_below_drewN | apply below_drew1) | exact HB.out)) hb); clear HB; have HB := n0_; clear n0_; (try clear hb); (try clear hb2); (try clear hk); (try clear hi)))
        go_ret
        exact ⟨by first | rfl | (simp [errW_none, errW_some] <;> rfl) | (simp [*, errW_none, errW_some] <;> rfl), by repeat (first | (with_reducible first | exact HB.out | apply below_alloc | apply pw_below_drewN | apply below_drew1) | exact HB.out)⟩
      · rw [if_neg c9] at H
        have c9b0 : (a0 == 2) = false := beq_eq_false_iff_ne.mpr c9
        have c9b1 : (a0 != 2) = true := bne_iff_ne.mpr c9
        by_cases c12 : a0 = 3
        · rw [if_pos c12] at H
          have c12b0 : (a0 == 3) = true := beq_iff_eq.mpr c12
          have c12b1 : (a0 != 3) = false := bne_eq_false_iff_eq.mpr c12
          clear c12
          replace H := Option.bind_eq_some_iff.mp H
          obtain ⟨t206, A130, H⟩ := H
          replace H : (some t206) = some r := H
          have A13 := Aside0.mk A130
          clear A130
          obtain rfl := Option.some.inj H
          go_enter Tryd.func14, Tryd.ntmps14
          go_wp2_with (first | ((with_reducible refine gate_callee (f := 59) rfl ?_); refine goesL_ (some 24) rfl rfl Tryd.func59 (by kernel_rfl) rfl #[.string a2] rfl (by (try simp only [List.map_toArray, List.map_cons, List.map_nil]); first | done | rfl | (simp only [List.length_drop, List.length_take]; rfl)) ?_; (with_reducible refine (xansi_SetSystemClipboard.calls k a2 t206 _ A13.out).mono ?_); rintro e w14 ⟨rfl, hb⟩; refine ⟨_, rfl, ?_⟩; have n0_ := Aside0.mk (below_step (by repeat (first | (with_reducible first | exact HB.out | apply below_alloc | apply pw_below_drewN | apply below_drew1) | exact HB.out)) hb); clear HB; have HB := n0_; clear n0_; (try clear hb); (try clear hb2); (try clear hk); (try clear hi)))
          go_ret
          exact ⟨by first | rfl | (simp [errW_none, errW_some] <;> rfl) | (simp [*, errW_none, errW_some] <;> rfl), by repeat (first | (with_reducible first | exact HB.out | apply below_alloc | apply pw_below_drewN | apply below_drew1) | exact HB.out)⟩
        · rw [if_neg c12] at H
          have c12b0 : (a0 == 3) = false := beq_eq_false_iff_ne.mpr c12
          have c12b1 : (a0 != 3) = true := bne_iff_ne.mpr c12
          by_cases c15 : a0 = 4
          · rw [if_pos c15] at H
            have c15b0 : (a0 == 4) = true := beq_iff_eq.mpr c15
            have c15b1 : (a0 != 4) = false := bne_eq_false_iff_eq.mpr c15
            clear c15
            replace H := Option.bind_eq_some_iff.mp H
            obtain ⟨t207, A160, H⟩ := H
            replace H : (some t207) = some r := H
            have A16 := Aside0.mk A160
            clear A160
            obtain rfl := Option.some.inj H
            go_enter Tryd.func14, Tryd.ntmps14
            go_wp2_with (first | ((with_reducible refine gate_callee (f := 60) rfl ?_); refine goesL_ (some 28) rfl rfl Tryd.func60 (by kernel_rfl) rfl #[.string a2] rfl (by (try simp only [List.map_toArray, List.map_cons, List.map_nil]); first | done | rfl | (simp only [List.length_drop, List.length_take]; rfl)) ?_; (with_reducible refine (xansi_SetPrimaryClipboard.calls k a2 t207 _ A16.out).mono ?_); rintro e w17 ⟨rfl, hb⟩; refine ⟨_, rfl, ?_⟩; have n0_ := Aside0.mk (below_step (by repeat (first | (with_reducible first | exact HB.out | apply below_alloc | apply pw_below_drewN | apply below_drew1) | exact HB.out)) hb); clear HB; have HB := n0_; clear n0_; (try clear hb); (try clear hb2); (try clear hk); (try clear hi)))
            go_ret
            exact ⟨by first | rfl | (simp [errW_none, errW_some] <;> rfl) | (simp [*, errW_none, errW_some] <;> rfl), by repeat (first | (with_reducible first | exact HB.out | apply below_alloc | apply pw_below_drewN | apply below_drew1) | exact HB.out)⟩
          · rw [if_neg c15] at H
            have c15b0 : (a0 == 4) = false := beq_eq_false_iff_ne.mpr c15
            have c15b1 : (a0 != 4) = true := bne_iff_ne.mpr c15
            obtain rfl := Option.some.inj H
            go_enter Tryd.func14, Tryd.ntmps14
            go_wp2
            go_ret
            exact ⟨by first | rfl | (simp [errW_none, errW_some] <;> rfl) | (simp [*, errW_none, errW_some] <;> rfl), by repeat (first | (with_reducible first | exact HB.out | apply below_alloc | apply pw_below_drewN | apply below_drew1) | exact HB.out)⟩
end Go.Proofs.YtjkjnhcnmjknmaaDoor.Y
end
