/- Texts of this claim, joined: Y66 XRepList XConv2 Y31 Y32 Y33. Of each, what the claim uses. -/
import Derived.Test.YtjkpelaeelihhaaGreatDoorRRKReportsb
import Derived.Lib.Hide
import Derived.StillTailTactics
section
namespace Go.Proofs.YtjkpelaeelihhaaGreatDoorRR.Y
open Go.RowKit Go.Proofs.YtjkpelaeelihhaaGreatDoorRRW.PrintWords Go.Proofs.YtjkpelaeelihhaaGreatDoorRRW.PrintLast Go.Proofs.YtjkpelaeelihhaaGreatDoorRRW.PrintMore
attribute [local go_sem] max2_int min2_int max_two min_two max_three min_three max_four min_four   -- for this text's walks alone
set_option linter.unusedVariables false
set_option linter.unusedSimpArgs false
set_option maxHeartbeats 8000000 in
set_option maxRecDepth 100000 in
theorem xansi_InBandResize.calls (k : Nat) (a0 : Int) (a1 : Int) (a2 : Int) (a3 : Int) (r : ByteArray) (w : World) (hT : XTab w) (h : xansi_InBandResize.f k a0 a1 a2 a3 = some r) :
    Calls Tryz.prog 80 #[.int .i64 a0, .int .i64 a1, .int .i64 a2, .int .i64 a3] w fun e w' => e = .returned (.string r) ∧ Below w.heap.size w w' := by
  have HT := Aside0.mk hT
  clear hT
  have HB := Aside0.mk (Below.refl w.heap.size w)
  have H : (if a0 < 0 then (xansi_InBandResize.j0 k 0 a1 a2 a3) else (xansi_InBandResize.j0 k a0 a1 a2 a3)) = some r := h
  clear h
  have HC5 := Aside0.mk H
  clear H
  go_enter Tryz.func80, Tryz.ntmps80
  go_upto_if 10 with (fail)
  go_cut [0] (fun v0 wc => ∃ (kq : Nat) (x0_4 : Int), v0 = .int .i64 x0_4 ∧ Aside0 (xansi_InBandResize.j0 kq x0_4 a1 a2 a3 = some r) ∧ Aside0 (kq ≤ k) ∧ Aside0 (Below w.heap.size w wc))
  case first =>
    have H := HC5.out
    clear HC5
    by_cases c6 : a0 < 0
    · rw [if_pos c6] at H
      have c6b0 : decide (a0 < 0) = true := decide_eq_true c6
      clear c6
      (first | rw [c6b0] | (simp only [i64_w, i32_w]; rw [c6b0]) | skip)
      have H' := Aside0.mk H
      clear H
      go_wp2
      go_meet
      case rel => exact ⟨_, (0), (by first | rfl | (simp; done) | (simp [*]; done)), H', ⟨by first | omega | exact Nat.le_refl _⟩, ⟨by repeat (first | (with_reducible first | exact HB.out | apply below_alloc | apply pw_below_drewN | apply below_drew1) | exact HB.out)⟩⟩
    · rw [if_neg c6] at H
      have c6b0 : decide (a0 < 0) = false := decide_eq_false c6
      clear c6
      (first | rw [c6b0] | (simp only [i64_w, i32_w]; rw [c6b0]) | skip)
      have H' := Aside0.mk H
      clear H
      go_wp2
      go_meet
      case rel => exact ⟨_, (a0), (by first | rfl | (simp; done) | (simp [*]; done)), H', ⟨by first | omega | exact Nat.le_refl _⟩, ⟨by repeat (first | (with_reducible first | exact HB.out | apply below_alloc | apply pw_below_drewN | apply below_drew1) | exact HB.out)⟩⟩
  case rest =>
    clear HC5
    try clear p2
    try clear c6
    try clear c6b0
    obtain ⟨kq, x0_4, rfl, HA, HJ4, HB⟩ := hcut
    cases kq with
    | zero => exact absurd HA.out (by simp [xansi_InBandResize.j0])
    | succ kj4 =>
      have H := HA.out
      clear HA
      simp only [xansi_InBandResize.j0] at H
      have HC7 := Aside0.mk H
      clear H
      go_upto_if 12 with (fail)
      go_cut [1] (fun v1 wc => ∃ (kq : Nat) (x1_6 : Int), v1 = .int .i64 x1_6 ∧ Aside0 (xansi_InBandResize.j1 kq x0_4 x1_6 a2 a3 = some r) ∧ Aside0 (kq ≤ kj4) ∧ Aside0 (Below w.heap.size w wc))
      case first =>
        have H := HC7.out
        clear HC7
        by_cases c8 : a1 < 0
        · rw [if_pos c8] at H
          have c8b0 : decide (a1 < 0) = true := decide_eq_true c8
          clear c8
          (first | rw [c8b0] | (simp only [i64_w, i32_w]; rw [c8b0]) | skip)
          have H' := Aside0.mk H
          clear H
          go_wp2
          go_meet
          case rel => exact ⟨_, (0), (by first | rfl | (simp; done) | (simp [*]; done)), H', ⟨by have := HJ4.out; first | omega | exact Nat.le_refl _⟩, ⟨by repeat (first | (with_reducible first | exact HB.out | apply below_alloc | apply pw_below_drewN | apply below_drew1) | exact HB.out)⟩⟩
        · rw [if_neg c8] at H
          have c8b0 : decide (a1 < 0) = false := decide_eq_false c8
          clear c8
          (first | rw [c8b0] | (simp only [i64_w, i32_w]; rw [c8b0]) | skip)
          have H' := Aside0.mk H
          clear H
          go_wp2
          go_meet
          case rel => exact ⟨_, (a1), (by first | rfl | (simp; done) | (simp [*]; done)), H', ⟨by have := HJ4.out; first | omega | exact Nat.le_refl _⟩, ⟨by repeat (first | (with_reducible first | exact HB.out | apply below_alloc | apply pw_below_drewN | apply below_drew1) | exact HB.out)⟩⟩
      case rest =>
        clear HC7
        try clear p2
        try clear c6
        try clear c6b0
        try clear c8
        try clear c8b0
        try clear p2
        obtain ⟨kq, x1_6, rfl, HA, HJ6, HB⟩ := hcut
        cases kq with
        | zero => exact absurd HA.out (by simp [xansi_InBandResize.j1])
        | succ kj6 =>
          have H := HA.out
          clear HA
          simp only [xansi_InBandResize.j1] at H
          have HC9 := Aside0.mk H
          clear H
          go_upto_if 14 with (fail)
          go_cut [2] (fun v2 wc => ∃ (kq : Nat) (x2_8 : Int), v2 = .int .i64 x2_8 ∧ Aside0 (xansi_InBandResize.j2 kq x0_4 x1_6 x2_8 a3 = some r) ∧ Aside0 (kq ≤ kj6) ∧ Aside0 (Below w.heap.size w wc))
          case first =>
            have H := HC9.out
            clear HC9
            by_cases c10 : a2 < 0
            · rw [if_pos c10] at H
              have c10b0 : decide (a2 < 0) = true := decide_eq_true c10
              clear c10
              (first | rw [c10b0] | (simp only [i64_w, i32_w]; rw [c10b0]) | skip)
              have H' := Aside0.mk H
              clear H
              go_wp2
              go_meet
              case rel => exact ⟨_, (0), (by first | rfl | (simp; done) | (simp [*]; done)), H', ⟨by have := HJ4.out; have := HJ6.out; first | omega | exact Nat.le_refl _⟩, ⟨by repeat (first | (with_reducible first | exact HB.out | apply below_alloc | apply pw_below_drewN | apply below_drew1) | exact HB.out)⟩⟩
            · rw [if_neg c10] at H
              have c10b0 : decide (a2 < 0) = false := decide_eq_false c10
              clear c10
              (first | rw [c10b0] | (simp only [i64_w, i32_w]; rw [c10b0]) | skip)
              have H' := Aside0.mk H
              clear H
              go_wp2
              go_meet
              case rel => exact ⟨_, (a2), (by first | rfl | (simp; done) | (simp [*]; done)), H', ⟨by have := HJ4.out; have := HJ6.out; first | omega | exact Nat.le_refl _⟩, ⟨by repeat (first | (with_reducible first | exact HB.out | apply below_alloc | apply pw_below_drewN | apply below_drew1) | exact HB.out)⟩⟩
          case rest =>
            clear HC9
            try clear c1
            try clear p2
            try clear c6
            try clear c6b0
            try clear c8
            try clear c8b0
            try clear c10
            try clear c10b0
            try clear p2
            obtain ⟨kq, x2_8, rfl, HA, HJ8, HB⟩ := hcut
            cases kq with
            | zero => exact absurd HA.out (by simp [xansi_InBandResize.j2])
            | succ kj8 =>
              have H := HA.out
              clear HA
              simp only [xansi_InBandResize.j2] at H
              have HC11 := Aside0.mk H
              clear H
              go_upto_if 16 with (fail)
              go_cut [3] (fun v3 wc => ∃ (kq : Nat) (x3_10 : Int), v3 = .int .i64 x3_10 ∧ Aside0 (xansi_InBandResize.j3 kq x0_4 x1_6 x2_8 x3_10 = some r) ∧ Aside0 (kq ≤ kj8) ∧ Aside0 (Below w.heap.size w wc))
              case first =>
                have H := HC11.out
                clear HC11
                by_cases c12 : a3 < 0
                · rw [if_pos c12] at H
                  have c12b0 : decide (a3 < 0) = true := decide_eq_true c12
                  clear c12
                  (first | rw [c12b0] | (simp only [i64_w, i32_w]; rw [c12b0]) | skip)
                  have H' := Aside0.mk H
                  clear H
                  go_wp2
                  go_meet
                  case rel => exact ⟨_, (0), (by first | rfl | (simp; done) | (simp [*]; done)), H', ⟨by have := HJ4.out; have := HJ6.out; have := HJ8.out; first | omega | exact Nat.le_refl _⟩, ⟨by repeat (first | (with_reducible first | exact HB.out | apply below_alloc | apply pw_below_drewN | apply below_drew1) | exact HB.out)⟩⟩
                · rw [if_neg c12] at H
                  have c12b0 : decide (a3 < 0) = false := decide_eq_false c12
                  clear c12
                  (first | rw [c12b0] | (simp only [i64_w, i32_w]; rw [c12b0]) | skip)
                  have H' := Aside0.mk H
                  clear H
                  go_wp2
                  go_meet
                  case rel => exact ⟨_, (a3), (by first | rfl | (simp; done) | (simp [*]; done)), H', ⟨by have := HJ4.out; have := HJ6.out; have := HJ8.out; first | omega | exact Nat.le_refl _⟩, ⟨by repeat (first | (with_reducible first | exact HB.out | apply below_alloc | apply pw_below_drewN | apply below_drew1) | exact HB.out)⟩⟩
              case rest =>
                clear HC11
                try clear c1
                try clear p2
                try clear c6
                try clear c6b0
                try clear c8
                try clear c8b0
                try clear c10
                try clear c10b0
                try clear c12
                try clear c12b0
                try clear p2
                obtain ⟨kq, x3_10, rfl, HA, HJ10, HB⟩ := hcut
                cases kq with
                | zero => exact absurd HA.out (by simp [xansi_InBandResize.j3])
                | succ kj10 =>
                  have H := HA.out
                  clear HA
                  simp only [xansi_InBandResize.j3] at H
                  replace H := Option.bind_eq_some_iff.mp H
                  obtain ⟨t374, A130, H⟩ := H
                  replace H : (if 5 + t374.size ≤ 9223372036854775807 then (if 5 + t374.size + 1 ≤ 9223372036854775807 then ((strconv_Itoa.f x1_6).bind fun t375 => (if 5 + t374.size + 1 + t375.size ≤ 9223372036854775807 then (if 5 + t374.size + 1 + t375.size + 1 ≤ 9223372036854775807 then ((strconv_Itoa.f x2_8).bind fun t376 => (if 5 + t374.size + 1 + t375.size + 1 + t376.size ≤ 9223372036854775807 then (if 5 + t374.size + 1 + t375.size + 1 + t376.size + 1 ≤ 9223372036854775807 then ((strconv_Itoa.f x3_10).bind fun t377 => (if 5 + t374.size + 1 + t375.size + 1 + t376.size + 1 + t377.size ≤ 9223372036854775807 then (if 5 + t374.size + 1 + t375.size + 1 + t376.size + 1 + t377.size + 1 ≤ 9223372036854775807 then (some (((((((((⟨#[27, 91, 52, 56, 59]⟩ : ByteArray) ++ t374) ++ (⟨#[59]⟩ : ByteArray)) ++ t375) ++ (⟨#[59]⟩ : ByteArray)) ++ t376) ++ (⟨#[59]⟩ : ByteArray)) ++ t377) ++ (⟨#[116]⟩ : ByteArray))) else (none)) else (none))) else (none)) else (none))) else (none)) else (none))) else (none)) else (none)) = some r := H
                  have A13 := Aside0.mk A130
                  clear A130
                  by_cases c14 : 5 + t374.size ≤ 9223372036854775807
                  · rw [if_pos c14] at H
                    have c14b0 := eq_true c14
                    have c14b1 : decide (5 + t374.size ≤ 9223372036854775807) = true := decide_eq_true c14
                    try have c14b2 : (9223372036854775807 < 5 + t374.size) = False := eq_false (Nat.not_lt.2 c14)
                    by_cases c15 : 5 + t374.size + 1 ≤ 9223372036854775807
                    · rw [if_pos c15] at H
                      have c15b0 := eq_true c15
                      have c15b1 : decide (5 + t374.size + 1 ≤ 9223372036854775807) = true := decide_eq_true c15
                      try have c15b2 : (9223372036854775807 < 5 + t374.size + 1) = False := eq_false (Nat.not_lt.2 c15)
                      replace H := Option.bind_eq_some_iff.mp H
                      obtain ⟨t375, A160, H⟩ := H
                      replace H : (if 5 + t374.size + 1 + t375.size ≤ 9223372036854775807 then (if 5 + t374.size + 1 + t375.size + 1 ≤ 9223372036854775807 then ((strconv_Itoa.f x2_8).bind fun t376 => (if 5 + t374.size + 1 + t375.size + 1 + t376.size ≤ 9223372036854775807 then (if 5 + t374.size + 1 + t375.size + 1 + t376.size + 1 ≤ 9223372036854775807 then ((strconv_Itoa.f x3_10).bind fun t377 => (if 5 + t374.size + 1 + t375.size + 1 + t376.size + 1 + t377.size ≤ 9223372036854775807 then (if 5 + t374.size + 1 + t375.size + 1 + t376.size + 1 + t377.size + 1 ≤ 9223372036854775807 then (some (((((((((⟨#[27, 91, 52, 56, 59]⟩ : ByteArray) ++ t374) ++ (⟨#[59]⟩ : ByteArray)) ++ t375) ++ (⟨#[59]⟩ : ByteArray)) ++ t376) ++ (⟨#[59]⟩ : ByteArray)) ++ t377) ++ (⟨#[116]⟩ : ByteArray))) else (none)) else (none))) else (none)) else (none))) else (none)) else (none)) = some r := H
                      have A16 := Aside0.mk A160
                      clear A160
                      by_cases c17 : 5 + t374.size + 1 + t375.size ≤ 9223372036854775807
                      · rw [if_pos c17] at H
                        have c17b0 := eq_true c17
                        have c17b1 : decide (5 + t374.size + 1 + t375.size ≤ 9223372036854775807) = true := decide_eq_true c17
                        try have c17b2 : (9223372036854775807 < 5 + t374.size + 1 + t375.size) = False := eq_false (Nat.not_lt.2 c17)
                        by_cases c18 : 5 + t374.size + 1 + t375.size + 1 ≤ 9223372036854775807
                        · rw [if_pos c18] at H
                          have c18b0 := eq_true c18
                          have c18b1 : decide (5 + t374.size + 1 + t375.size + 1 ≤ 9223372036854775807) = true := decide_eq_true c18
                          try have c18b2 : (9223372036854775807 < 5 + t374.size + 1 + t375.size + 1) = False := eq_false (Nat.not_lt.2 c18)
                          replace H := Option.bind_eq_some_iff.mp H
                          obtain ⟨t376, A190, H⟩ := H
                          replace H : (if 5 + t374.size + 1 + t375.size + 1 + t376.size ≤ 9223372036854775807 then (if 5 + t374.size + 1 + t375.size + 1 + t376.size + 1 ≤ 9223372036854775807 then ((strconv_Itoa.f x3_10).bind fun t377 => (if 5 + t374.size + 1 + t375.size + 1 + t376.size + 1 + t377.size ≤ 9223372036854775807 then (if 5 + t374.size + 1 + t375.size + 1 + t376.size + 1 + t377.size + 1 ≤ 9223372036854775807 then (some (((((((((⟨#[27, 91, 52, 56, 59]⟩ : ByteArray) ++ t374) ++ (⟨#[59]⟩ : ByteArray)) ++ t375) ++ (⟨#[59]⟩ : ByteArray)) ++ t376) ++ (⟨#[59]⟩ : ByteArray)) ++ t377) ++ (⟨#[116]⟩ : ByteArray))) else (none)) else (none))) else (none)) else (none)) = some r := H
                          have A19 := Aside0.mk A190
                          clear A190
                          by_cases c20 : 5 + t374.size + 1 + t375.size + 1 + t376.size ≤ 9223372036854775807
                          · rw [if_pos c20] at H
                            have c20b0 := eq_true c20
                            have c20b1 : decide (5 + t374.size + 1 + t375.size + 1 + t376.size ≤ 9223372036854775807) = true := decide_eq_true c20
                            try have c20b2 : (9223372036854775807 < 5 + t374.size + 1 + t375.size + 1 + t376.size) = False := eq_false (Nat.not_lt.2 c20)
                            by_cases c21 : 5 + t374.size + 1 + t375.size + 1 + t376.size + 1 ≤ 9223372036854775807
                            · rw [if_pos c21] at H
                              have c21b0 := eq_true c21
                              have c21b1 : decide (5 + t374.size + 1 + t375.size + 1 + t376.size + 1 ≤ 9223372036854775807) = true := decide_eq_true c21
                              try have c21b2 : (9223372036854775807 < 5 + t374.size + 1 + t375.size + 1 + t376.size + 1) = False := eq_false (Nat.not_lt.2 c21)
                              replace H := Option.bind_eq_some_iff.mp H
                              obtain ⟨t377, A220, H⟩ := H
                              replace H : (if 5 + t374.size + 1 + t375.size + 1 + t376.size + 1 + t377.size ≤ 9223372036854775807 then (if 5 + t374.size + 1 + t375.size + 1 + t376.size + 1 + t377.size + 1 ≤ 9223372036854775807 then (some (((((((((⟨#[27, 91, 52, 56, 59]⟩ : ByteArray) ++ t374) ++ (⟨#[59]⟩ : ByteArray)) ++ t375) ++ (⟨#[59]⟩ : ByteArray)) ++ t376) ++ (⟨#[59]⟩ : ByteArray)) ++ t377) ++ (⟨#[116]⟩ : ByteArray))) else (none)) else (none)) = some r := H
                              have A22 := Aside0.mk A220
                              clear A220
                              by_cases c23 : 5 + t374.size + 1 + t375.size + 1 + t376.size + 1 + t377.size ≤ 9223372036854775807
                              · rw [if_pos c23] at H
                                have c23b0 := eq_true c23
                                have c23b1 : decide (5 + t374.size + 1 + t375.size + 1 + t376.size + 1 + t377.size ≤ 9223372036854775807) = true := decide_eq_true c23
                                try have c23b2 : (9223372036854775807 < 5 + t374.size + 1 + t375.size + 1 + t376.size + 1 + t377.size) = False := eq_false (Nat.not_lt.2 c23)
                                by_cases c24 : 5 + t374.size + 1 + t375.size + 1 + t376.size + 1 + t377.size + 1 ≤ 9223372036854775807
                                · rw [if_pos c24] at H
                                  have c24b0 := eq_true c24
                                  have c24b1 : decide (5 + t374.size + 1 + t375.size + 1 + t376.size + 1 + t377.size + 1 ≤ 9223372036854775807) = true := decide_eq_true c24
                                  try have c24b2 : (9223372036854775807 < 5 + t374.size + 1 + t375.size + 1 + t376.size + 1 + t377.size + 1) = False := eq_false (Nat.not_lt.2 c24)
                                  obtain rfl := Option.some.inj H
                                  go_wp2_with (first | ((with_reducible refine gate_callee (f := 101) rfl ?_); refine goesL_ (some 18) rfl rfl Tryz.func101 (by kernel_rfl) rfl #[.int .i64 x0_4] rfl (by (try simp only [List.map_toArray, List.map_cons, List.map_nil]); first | done | rfl | (simp only [List.length_drop, List.length_take]; rfl)) ?_; (with_reducible refine (strconv_Itoa.calls x0_4 t374 _ ?side1 A13.out).mono ?_); (case side1 => exact XTab.below HT.out (by repeat (first | (with_reducible first | exact HB.out | apply below_alloc | apply pw_below_drewN | apply below_drew1) | exact HB.out))); rintro e w25 ⟨rfl, hb⟩; refine ⟨_, rfl, ?_⟩; have n0_ := Aside0.mk (below_step (by repeat (first | (with_reducible first | exact HB.out | apply below_alloc | apply pw_below_drewN | apply below_drew1) | exact HB.out)) hb); clear HB; have HB := n0_; clear n0_; (try clear hb); (try clear hb2); (try clear hk); (try clear hi)) | ((with_reducible refine gate_callee (f := 101) rfl ?_); refine goesL_ (some 22) rfl rfl Tryz.func101 (by kernel_rfl) rfl #[.int .i64 x1_6] rfl (by (try simp only [List.map_toArray, List.map_cons, List.map_nil]); first | done | rfl | (simp only [List.length_drop, List.length_take]; rfl)) ?_; (with_reducible refine (strconv_Itoa.calls x1_6 t375 _ ?side1 A16.out).mono ?_); (case side1 => exact XTab.below HT.out (by repeat (first | (with_reducible first | exact HB.out | apply below_alloc | apply pw_below_drewN | apply below_drew1) | exact HB.out))); rintro e w26 ⟨rfl, hb⟩; refine ⟨_, rfl, ?_⟩; have n0_ := Aside0.mk (below_step (by repeat (first | (with_reducible first | exact HB.out | apply below_alloc | apply pw_below_drewN | apply below_drew1) | exact HB.out)) hb); clear HB; have HB := n0_; clear n0_; (try clear hb); (try clear hb2); (try clear hk); (try clear hi)) | ((with_reducible refine gate_callee (f := 101) rfl ?_); refine goesL_ (some 26) rfl rfl Tryz.func101 (by kernel_rfl) rfl #[.int .i64 x2_8] rfl (by (try simp only [List.map_toArray, List.map_cons, List.map_nil]); first | done | rfl | (simp only [List.length_drop, List.length_take]; rfl)) ?_; (with_reducible refine (strconv_Itoa.calls x2_8 t376 _ ?side1 A19.out).mono ?_); (case side1 => exact XTab.below HT.out (by repeat (first | (with_reducible first | exact HB.out | apply below_alloc | apply pw_below_drewN | apply below_drew1) | exact HB.out))); rintro e w27 ⟨rfl, hb⟩; refine ⟨_, rfl, ?_⟩; have n0_ := Aside0.mk (below_step (by repeat (first | (with_reducible first | exact HB.out | apply below_alloc | apply pw_below_drewN | apply below_drew1) | exact HB.out)) hb); clear HB; have HB := n0_; clear n0_; (try clear hb); (try clear hb2); (try clear hk); (try clear hi)) | ((with_reducible refine gate_callee (f := 101) rfl ?_); refine goesL_ (some 30) rfl rfl Tryz.func101 (by kernel_rfl) rfl #[.int .i64 x3_10] rfl (by (try simp only [List.map_toArray, List.map_cons, List.map_nil]); first | done | rfl | (simp only [List.length_drop, List.length_take]; rfl)) ?_; (with_reducible refine (strconv_Itoa.calls x3_10 t377 _ ?side1 A22.out).mono ?_); (case side1 => exact XTab.below HT.out (by repeat (first | (with_reducible first | exact HB.out | apply below_alloc | apply pw_below_drewN | apply below_drew1) | exact HB.out))); rintro e w28 ⟨rfl, hb⟩; refine ⟨_, rfl, ?_⟩; have n0_ := Aside0.mk (below_step (by repeat (first | (with_reducible first | exact HB.out | apply below_alloc | apply pw_below_drewN | apply below_drew1) | exact HB.out)) hb); clear HB; have HB := n0_; clear n0_; (try clear hb); (try clear hb2); (try clear hk); (try clear hi)))
                                  go_ret
                                  exact ⟨by first | rfl | (simp [errW_none, errW_some] <;> rfl) | (simp [*, errW_none, errW_some] <;> rfl), by repeat (first | (with_reducible first | exact HB.out | apply below_alloc | apply pw_below_drewN | apply below_drew1) | exact HB.out)⟩
                                · rw [if_neg c24] at H
                                  exact absurd H (by simp)
                              · rw [if_neg c23] at H
                                exact absurd H (by simp)
                            · rw [if_neg c21] at H
                              exact absurd H (by simp)
                          · rw [if_neg c20] at H
                            exact absurd H (by simp)
                        · rw [if_neg c18] at H
                          exact absurd H (by simp)
                      · rw [if_neg c17] at H
                        exact absurd H (by simp)
                    · rw [if_neg c15] at H
                      exact absurd H (by simp)
                  · rw [if_neg c14] at H
                    exact absurd H (by simp)
end Go.Proofs.YtjkpelaeelihhaaGreatDoorRR.Y
end
section
namespace Go.Proofs.YtjkpelaeelihhaaGreatDoorRR.Y
open Go.RowKit Go.Proofs.YtjkpelaeelihhaaGreatDoorRRW.PrintWords Go.Proofs.YtjkpelaeelihhaaGreatDoorRRW.PrintLast Go.Proofs.YtjkpelaeelihhaaGreatDoorRRW.PrintMore
set_option linter.unusedSimpArgs false
set_option linter.unusedVariables false
set_option maxRecDepth 100000
set_option maxHeartbeats 8000000
theorem row_of {e base : Nat} {w : World} {ok : Nat → Prop} {v : Value} {xs : List Int} (h : (Kd.int .i64).R e w base ok v xs) (hl : 0 < xs.length) : ∃ g c, v = .slice (some ⟨g, 0, none⟩) xs.length c := by
  obtain ⟨_, inner, hown, _⟩ := h
  rcases hown.2 with ⟨_, h0⟩ | ⟨g, cap, cur, rfl, _⟩
  · omega
  · exact ⟨g, cap, rfl⟩
theorem makeList0 (k : Nat) (A1 : Option Addr) (c1 : Nat) (l1 t : List Int) (r : ByteArray) (w : World) (hT : XTab w) (hr1 : Kd.C (Kd.int .i64) w A1 l1.length l1) (hc1 : l1.length ≤ c1) (h1 : impl_count.f k l1 = some t) (h2 : xansi_PrimaryDeviceAttributes.f k t = some r) :
    Calls Tryz.prog 19 #[.int .i64 0, .slice A1 l1.length c1] w fun e w' => e = .returned (.string r) ∧ Below w.heap.size w w' := by
  have HC := Lib.hid (And.intro hT (And.intro hr1 (And.intro h1 h2)))
  clear hT hr1 h1 h2
  go_enter Tryz.func19, Tryz.ntmps19
  go_wp2_with fail
  refine (impl_count.calls k _ _ l1 t w HC.out.2.1 hc1 HC.out.2.2.1).mono ?_
  rintro e w1 ⟨v, rfl, hR, hb⟩
  obtain ⟨Av, cv, rfl⟩ := Kd.R_slice hR
  have HR := Lib.hid (And.intro (Kd.R_reads' hR).2 hb)
  clear hR hb
  go_wp2_with fail
  refine (xansi_PrimaryDeviceAttributes.calls k _ _ t r w1 (HC.out.1.below HR.out.2) HR.out.1.2 HR.out.1.1 HC.out.2.2.2).mono ?_
  rintro e w2 ⟨rfl, hb2⟩
  have HB := Lib.hid (HR.out.2.trans (hb2.mono HR.out.2.size))
  clear hb2
  go_wp2_with fail
  go_ret
  exact ⟨rfl, HB.out⟩
theorem makeList7 (k : Nat) (A1 : Option Addr) (c1 : Nat) (l1 : List Int) (a b c : Int) (r : ByteArray) (w : World) (hT : XTab w) (hr1 : Kd.C (Kd.int .i64) w A1 l1.length l1) (hc1 : l1.length ≤ c1) (h1 : impl_count.f k l1 = some [a, b, c]) (h2 : xansi_ExtendedCursorPositionReport.f k a b c = some r) :
    Calls Tryz.prog 19 #[.int .i64 7, .slice A1 l1.length c1] w fun e w' => e = .returned (.string r) ∧ Below w.heap.size w w' := by
  have HC := Lib.hid (And.intro hT (And.intro hr1 (And.intro h1 h2)))
  clear hT hr1 h1 h2
  go_enter Tryz.func19, Tryz.ntmps19
  go_wp2_with fail
  refine (impl_count.calls k _ _ l1 [a, b, c] w HC.out.2.1 hc1 HC.out.2.2.1).mono ?_
  rintro e w1 ⟨v, rfl, hR, hb⟩
  obtain ⟨g, cv, rfl⟩ := row_of hR (by simp)
  have hC := (Kd.R_reads' hR).2.2
  have q0 := Kd.foot_int hC 0 (by decide) (by simp)
  have q1 := Kd.foot_int hC 1 (by decide) (by simp)
  have q2 := Kd.foot_int hC 2 (by decide) (by simp)
  rw [show ((0 : Int)).toNat = 0 from rfl, add_plain] at q0
  rw [show ((1 : Int)).toNat = 1 from rfl, add_plain] at q1
  rw [show ((2 : Int)).toNat = 2 from rfl, add_plain] at q2
  change w1.cell? ⟨g, 0, none⟩ = some (.int .i64 a) at q0
  change w1.cell? ⟨g, 1, none⟩ = some (.int .i64 b) at q1
  change w1.cell? ⟨g, 2, none⟩ = some (.int .i64 c) at q2
  have HR := Lib.hid hb
  clear hR hb hC
  go_wp2_with fail
  go_still_tail 9, (by kernel_rfl)
  change wpList _ _ _ _ _ w1.drew
  go_wp2_with fail
  refine (xansi_ExtendedCursorPositionReport.calls k a b c r w1.drew (HC.out.1.below HR.out.drew) HC.out.2.2.2).mono ?_
  rintro e w2 ⟨rfl, hb2⟩
  have HB := Lib.hid (below_step HR.out.drew hb2)
  clear hb2 q0 q1 q2
  go_wp2_with fail
  go_ret
  exact ⟨rfl, HB.out⟩
theorem makeList8 (k : Nat) (A1 : Option Addr) (c1 : Nat) (l1 : List Int) (a b c d : Int) (r : ByteArray) (w : World) (hT : XTab w) (hr1 : Kd.C (Kd.int .i64) w A1 l1.length l1) (hc1 : l1.length ≤ c1) (h1 : impl_count.f k l1 = some [a, b, c, d]) (h2 : xansi_InBandResize.f k a b c d = some r) :
    Calls Tryz.prog 19 #[.int .i64 8, .slice A1 l1.length c1] w fun e w' => e = .returned (.string r) ∧ Below w.heap.size w w' := by
  have HC := Lib.hid (And.intro hT (And.intro hr1 (And.intro h1 h2)))
  clear hT hr1 h1 h2
  go_enter Tryz.func19, Tryz.ntmps19
  go_wp2_with fail
  refine (impl_count.calls k _ _ l1 [a, b, c, d] w HC.out.2.1 hc1 HC.out.2.2.1).mono ?_
  rintro e w1 ⟨v, rfl, hR, hb⟩
  obtain ⟨g, cv, rfl⟩ := row_of hR (by simp)
  have hC := (Kd.R_reads' hR).2.2
  have q0 := Kd.foot_int hC 0 (by decide) (by simp)
  have q1 := Kd.foot_int hC 1 (by decide) (by simp)
  have q2 := Kd.foot_int hC 2 (by decide) (by simp)
  have q3 := Kd.foot_int hC 3 (by decide) (by simp)
  rw [show ((0 : Int)).toNat = 0 from rfl, add_plain] at q0
  rw [show ((1 : Int)).toNat = 1 from rfl, add_plain] at q1
  rw [show ((2 : Int)).toNat = 2 from rfl, add_plain] at q2
  rw [show ((3 : Int)).toNat = 3 from rfl, add_plain] at q3
  change w1.cell? ⟨g, 0, none⟩ = some (.int .i64 a) at q0
  change w1.cell? ⟨g, 1, none⟩ = some (.int .i64 b) at q1
  change w1.cell? ⟨g, 2, none⟩ = some (.int .i64 c) at q2
  change w1.cell? ⟨g, 3, none⟩ = some (.int .i64 d) at q3
  have HR := Lib.hid hb
  clear hR hb hC
  go_wp2_with fail
  go_still_tail 12, (by kernel_rfl)
  change wpList _ _ _ _ _ w1.drew
  go_wp2_with fail
  refine (xansi_InBandResize.calls k a b c d r w1.drew (HC.out.1.below HR.out.drew) HC.out.2.2.2).mono ?_
  rintro e w2 ⟨rfl, hb2⟩
  have HB := Lib.hid (below_step HR.out.drew hb2)
  clear hb2 q0 q1 q2 q3
  go_wp2_with fail
  go_ret
  exact ⟨rfl, HB.out⟩
end Go.Proofs.YtjkpelaeelihhaaGreatDoorRR.Y
end
section
namespace Go.Proofs.YtjkpelaeelihhaaGreatDoorRRW.PrintWords
open Go.RowKit
theorem conv_step {P : Program} {ops : Array Oper} {o : Oper} {a : Act} {Q : Exit → Act → World → Prop} {Kc : Act → World → Prop} {W : World} (T U E : TypeId) {x : Operand}
    (hw : Region.wanted o (yielded ops a.tmps) = true) (ho : o.op = .convert T U x) (hT : P.underlying T = some .string) (hU : P.underlying U = some (.slice E)) (hE : P.underlying E = some (.int .u8))
    (s : ByteArray) (hx : a.eval x = .string s) {r : List Int} (h : gosem_conv.f s = some r)
    (k : ∀ e w', (∃ v0_ : Value, e = Ending.returned v0_ ∧ Kd.V (Kd.int .u8) E w' W.heap.size (fun k_ => (W.heap.size ≤ k_)) v0_ r ∧ Below W.heap.size W w') → ∃ v, e = Ending.returned v ∧ Kc (a.put o.dst v) w') :
    if Region.wanted o (yielded ops a.tmps) = true then Oper.wp P o a W Kc Q else Kc (a.put o.dst undef) W := by
  unfold gosem_conv.f at h
  split at h
  · rename_i hs
    obtain rfl := Option.some.inj h
    have hlen : (bytesOf s).length = s.size := bytesOf_length s
    have hcap : s.size ≤ grownCap W s.size 0 E := grownCap_ge _ _ _ _
    have hF : Kd.F (Kd.int .u8) (Lib.bytesWorld W E s) (fun k_ => (W.heap.size ≤ k_)) (some ⟨W.heap.size, 0, none⟩) (bytesOf s).length (bytesOf s) := fun W' hW => by
      have hb : W'.heap[W.heap.size]? = (Lib.bytesWorld W E s).heap[W.heap.size]? := hW W.heap.size (Nat.le_refl _) (by rw [Lib.bytesWorld_size]; omega)
      obtain ⟨h1, h2, h3⟩ := bytes_reads W E s (by omega)
      rw [hlen]
      refine Kd.C_of_reads (d := (0 : Int)) ⟨h1, h2, fun hn => ?_⟩
      obtain ⟨ad, he, hc⟩ := h3 hn
      refine ⟨ad, he, fun j hj => ?_⟩
      injection he with he
      subst he
      rw [World.cell?_of_block (w := Lib.bytesWorld W E s) (by rw [add_plain]; exact hb)]
      exact hc j hj
    obtain ⟨v, hv, hk⟩ := k (.returned (.slice (some ⟨W.heap.size, 0, none⟩) (bytesOf s).length (grownCap W s.size 0 E))) (Lib.bytesWorld W E s) ⟨_, rfl, Kd.V_mk (by rw [hlen]; exact hcap) hF, bytes_below (Below.refl _ _) (Nat.le_refl _) E s⟩
    injection hv with hv
    subst hv
    refine event_step hw ?_ hk
    rw [hlen]
    unfold execOp
    simp [ho, hx, print_bytes T U E hT hU hE s W]
  · cases h
end Go.Proofs.YtjkpelaeelihhaaGreatDoorRRW.PrintWords
end
section
namespace Go.Proofs.YtjkpelaeelihhaaGreatDoorRR.Y
open Go.RowKit Go.Proofs.YtjkpelaeelihhaaGreatDoorRRW.PrintWords Go.Proofs.YtjkpelaeelihhaaGreatDoorRRW.PrintLast Go.Proofs.YtjkpelaeelihhaaGreatDoorRRW.PrintMore
attribute [local go_sem] max2_int min2_int max_two min_two max_three min_three max_four min_four   -- for this text's walks alone
set_option linter.unusedVariables false
set_option linter.unusedSimpArgs false
set_option maxHeartbeats 8000000 in
set_option maxRecDepth 100000 in
theorem spec_DrawNumbers.calls (k : Nat) (A0 : Option Addr) (c0 : Nat) (l0 : List (S49)) (r1 : Int) (r2 : List Int) (r3 : Bool) (w : World) (hr0 : Kd.C k49 w A0 l0.length l0) (hc0 : l0.length ≤ c0) (h : spec_DrawNumbers.f k l0 = some (r1, r2, r3)) :
    Calls Tryz.prog 15 #[.slice A0 l0.length c0] w fun e w' => ∃ v1_ : Value, e = .returned (.tuple #[.int .i64 r1, v1_, .bool r3]) ∧ Kd.R (Kd.int .i64) 2 w' w.heap.size (fun _ => True) v1_ r2 ∧ Below w.heap.size w w' := by
  have HR0 := Aside0.mk hr0
  have HC0 := Aside0.mk hc0
  clear hr0 hc0
  have HB := Aside0.mk (Below.refl w.heap.size w)
  have H : (if (l0.length : Int) = 1 then (if 0 < (l0.length : Int) then (spec_DrawNumbers.j0 k l0 (((rd_T49 l0 0).f0) != 2)) else (none)) else (spec_DrawNumbers.j0 k l0 true)) = some (r1, r2, r3) := h
  clear h
  have HC2 := Aside0.mk H
  clear H
  go_enter Tryz.func15, Tryz.ntmps15
  go_upto_region 1 with (fail)
  go_cut [16] (fun v16 wc => ∃ (kq : Nat) (x16_1 : Bool), v16 = .bool x16_1 ∧ Aside0 (spec_DrawNumbers.j0 kq l0 x16_1 = some (r1, r2, r3)) ∧ Aside0 (kq ≤ k) ∧ Aside0 (Below w.heap.size w wc))
  case first =>
    have H := HC2.out
    clear HC2
    by_cases c3 : (l0.length : Int) = 1
    · rw [if_pos c3] at H
      have c3b0 : ((l0.length : Int) == 1) = true := beq_iff_eq.mpr c3
      have c3b1 : ((l0.length : Int) != 1) = false := bne_eq_false_iff_eq.mpr c3
      clear c3
      (first | rw [c3b0] | (simp only [i64_w, i32_w]; rw [c3b0]) | skip)
      by_cases c4 : 0 < (l0.length : Int)
      · rw [if_pos c4] at H
        have c4b0 : decide (0 < (l0.length : Int)) = true := decide_eq_true c4
        have c4b1 : decide (0 < l0.length) = true := decide_eq_true (by omega)
        clear c4
        have H' := Aside0.mk H
        clear H
        have p213 : 0 ≤ (0 : Int) := (by omega)
        have q213 : 0 < (l0.length : Int) := of_decide_eq_true (by first | (with_reducible assumption) | assumption)
        obtain ⟨ad213, A213_4, c213_4, A213_5, c213_5, e213, hx213_0, hx213_1, hx213_2, hx213_3, hx213_4, hx213_5, hl213_4, hi213_4, hl213_5, hi213_5⟩ := at_T49 HR0.out 0 p213 q213
        cases e213
        have qi213 : (0 < l0.length) = True := eq_true (by omega)
        (try rw [show ((0 : Int)).toNat = 0 from rfl] at hx213_0)
        (try rw [show 0 * 6 = 0 from rfl] at hx213_0)
        (try rw [Addr.add_zero'] at hx213_0)
        (try rw [show ((0 : Int)).toNat = 0 from rfl] at hx213_1)
        (try rw [show 0 * 6 = 0 from rfl] at hx213_1)
        (try rw [Addr.add_zero'] at hx213_1)
        (try rw [show ((0 : Int)).toNat = 0 from rfl] at hx213_2)
        (try rw [show 0 * 6 = 0 from rfl] at hx213_2)
        (try rw [Addr.add_zero'] at hx213_2)
        (try rw [show ((0 : Int)).toNat = 0 from rfl] at hx213_3)
        (try rw [show 0 * 6 = 0 from rfl] at hx213_3)
        (try rw [Addr.add_zero'] at hx213_3)
        (try rw [show ((0 : Int)).toNat = 0 from rfl] at hx213_4)
        (try rw [show 0 * 6 = 0 from rfl] at hx213_4)
        (try rw [Addr.add_zero'] at hx213_4)
        (try rw [show ((0 : Int)).toNat = 0 from rfl] at hx213_5)
        (try rw [show 0 * 6 = 0 from rfl] at hx213_5)
        (try rw [Addr.add_zero'] at hx213_5)
        replace hx213_0 := (HB.out.cell (World.block_lt_of_cell? w _ hx213_0)).trans hx213_0
        replace hx213_1 := (HB.out.cell (World.block_lt_of_cell? w _ hx213_1)).trans hx213_1
        replace hx213_2 := (HB.out.cell (World.block_lt_of_cell? w _ hx213_2)).trans hx213_2
        replace hx213_3 := (HB.out.cell (World.block_lt_of_cell? w _ hx213_3)).trans hx213_3
        replace hx213_4 := (HB.out.cell (World.block_lt_of_cell? w _ hx213_4)).trans hx213_4
        replace hx213_5 := (HB.out.cell (World.block_lt_of_cell? w _ hx213_5)).trans hx213_5
        have HR213_4 := Aside0.mk hi213_4
        have HC213_4 := Aside0.mk hl213_4
        clear hi213_4 hl213_4
        have HR213_5 := Aside0.mk hi213_5
        have HC213_5 := Aside0.mk hl213_5
        clear hi213_5 hl213_5
        replace p213 := eq_true p213
        replace q213 := eq_true q213
        go_wp2
        go_meet
        case rel => exact ⟨_, ((((rd_T49 l0 0).f0) != 2)), (by first | rfl | (simp; done) | (simp [*]; done)), H', ⟨by first | omega | exact Nat.le_refl _⟩, ⟨by repeat (first | (with_reducible first | exact HB.out | apply below_alloc | apply pw_below_drewN | apply below_drew1) | exact HB.out)⟩⟩
      · rw [if_neg c4] at H
        exact absurd H (by simp)
    · rw [if_neg c3] at H
      have c3b0 : ((l0.length : Int) == 1) = false := beq_eq_false_iff_ne.mpr c3
      have c3b1 : ((l0.length : Int) != 1) = true := bne_iff_ne.mpr c3
      (first | rw [c3b0] | (simp only [i64_w, i32_w]; rw [c3b0]) | skip)
      have H' := Aside0.mk H
      clear H
      go_wp2
      go_meet
      case rel => exact ⟨_, (true), (by first | rfl | (simp; done) | (simp [*]; done)), H', ⟨by first | omega | exact Nat.le_refl _⟩, ⟨by repeat (first | (with_reducible first | exact HB.out | apply below_alloc | apply pw_below_drewN | apply below_drew1) | exact HB.out)⟩⟩
  case rest =>
    clear HC2
    try clear c1
    try clear c2
    try clear p2
    try clear q2
    try clear hx2
    try clear qi2
    try clear c3
    try clear c3b0
    try clear c3b1
    try clear c4
    try clear c4b0
    try clear c4b1
    try clear hx213_0
    try clear hx213_1
    try clear hx213_2
    try clear hx213_3
    try clear hx213_4
    try clear hx213_5
    try clear p213
    try clear q213
    obtain ⟨kq, x16_1, rfl, HA, HJ1, HB⟩ := hcut
    cases kq with
    | zero => exact absurd HA.out (by simp [spec_DrawNumbers.j0])
    | succ kj1 =>
      have H := HA.out
      clear HA
      simp only [spec_DrawNumbers.j0] at H
      by_cases c5 : x16_1 = true
      · subst c5
        have H1 : (some (0, ([] : List Int), false)) = some (r1, r2, r3) := by rw [if_pos rfl] at H; exact H
        clear H
        have H := H1
        clear H1
        simp only [Option.some.injEq, Prod.mk.injEq] at H
        obtain ⟨rfl, rfl, rfl⟩ := H
        go_wp2
        go_ret3
        exact ⟨_, by first | rfl | (simp [errW_none, errW_some] <;> rfl) | (simp [*, errW_none, errW_some] <;> rfl), by first | exact Kd.R_nil _ _ _ _ _ | exact Kd.N_nil _ _ _ _ _ | exact Kd.V_nil _ _ _ _ _ | exact Kd.Q_nil _ _ _ _ _ | exact Kd.S_nil _ _ _ _ _, by repeat (first | (with_reducible first | exact HB.out | apply below_alloc | apply pw_below_drewN | apply below_drew1) | exact HB.out)⟩
      · replace c5 := Bool.eq_false_iff.mpr c5
        subst c5
        have H1 : (if 0 < (l0.length : Int) then (spec_DrawNumbers.l0 kj1 l0 ([] : List Int) (((rd_T49 l0 0).f4).length : Int) 0) else (none)) = some (r1, r2, r3) := by rw [if_neg (show ¬ (false = true) by decide)] at H; exact H
        clear H
        have H := H1
        clear H1
        by_cases c6 : 0 < (l0.length : Int)
        · rw [if_pos c6] at H
          have c6b0 : decide (0 < (l0.length : Int)) = true := decide_eq_true c6
          have c6b1 : decide (0 < l0.length) = true := decide_eq_true (by omega)
          clear c6
          have H' := Aside0.mk H
          clear H
          have p214 : 0 ≤ (0 : Int) := (by omega)
          have q214 : 0 < (l0.length : Int) := of_decide_eq_true (by first | (with_reducible assumption) | assumption)
          obtain ⟨ad214, A214_4, c214_4, A214_5, c214_5, e214, hx214_0, hx214_1, hx214_2, hx214_3, hx214_4, hx214_5, hl214_4, hi214_4, hl214_5, hi214_5⟩ := at_T49 HR0.out 0 p214 q214
          cases e214
          have qi214 : (0 < l0.length) = True := eq_true (by omega)
          (try rw [show ((0 : Int)).toNat = 0 from rfl] at hx214_0)
          (try rw [show 0 * 6 = 0 from rfl] at hx214_0)
          (try rw [Addr.add_zero'] at hx214_0)
          (try rw [show ((0 : Int)).toNat = 0 from rfl] at hx214_1)
          (try rw [show 0 * 6 = 0 from rfl] at hx214_1)
          (try rw [Addr.add_zero'] at hx214_1)
          (try rw [show ((0 : Int)).toNat = 0 from rfl] at hx214_2)
          (try rw [show 0 * 6 = 0 from rfl] at hx214_2)
          (try rw [Addr.add_zero'] at hx214_2)
          (try rw [show ((0 : Int)).toNat = 0 from rfl] at hx214_3)
          (try rw [show 0 * 6 = 0 from rfl] at hx214_3)
          (try rw [Addr.add_zero'] at hx214_3)
          (try rw [show ((0 : Int)).toNat = 0 from rfl] at hx214_4)
          (try rw [show 0 * 6 = 0 from rfl] at hx214_4)
          (try rw [Addr.add_zero'] at hx214_4)
          (try rw [show ((0 : Int)).toNat = 0 from rfl] at hx214_5)
          (try rw [show 0 * 6 = 0 from rfl] at hx214_5)
          (try rw [Addr.add_zero'] at hx214_5)
          replace hx214_0 := (HB.out.cell (World.block_lt_of_cell? w _ hx214_0)).trans hx214_0
          replace hx214_1 := (HB.out.cell (World.block_lt_of_cell? w _ hx214_1)).trans hx214_1
          replace hx214_2 := (HB.out.cell (World.block_lt_of_cell? w _ hx214_2)).trans hx214_2
          replace hx214_3 := (HB.out.cell (World.block_lt_of_cell? w _ hx214_3)).trans hx214_3
          replace hx214_4 := (HB.out.cell (World.block_lt_of_cell? w _ hx214_4)).trans hx214_4
          replace hx214_5 := (HB.out.cell (World.block_lt_of_cell? w _ hx214_5)).trans hx214_5
          have HR214_4 := Aside0.mk hi214_4
          have HC214_4 := Aside0.mk hl214_4
          clear hi214_4 hl214_4
          have HR214_5 := Aside0.mk hi214_5
          have HC214_5 := Aside0.mk hl214_5
          clear hi214_5 hl214_5
          replace p214 := eq_true p214
          replace q214 := eq_true q214
          go_wp2
          go_loopg [5, 22] kj1 (fun kq v5 v22 w' => ∃ (x5_2 : List Int) (x22_2 : Int), v22 = .int .i64 x22_2 ∧ Aside0 (spec_DrawNumbers.l0 kq l0 x5_2 (((rd_T49 l0 0).f4).length : Int) x22_2 = some (r1, r2, r3)) ∧ Aside0 (kq ≤ kj1) ∧ Aside0 (Kd.R (Kd.int .i64) 2 w' w.heap.size (fun _ => True) v5 x5_2) ∧ Aside0 (Below w.heap.size w w'))
          case atStart => exact ⟨(([] : List Int)), (0), (by first | rfl | (simp; done) | (simp [*]; done)), H', ⟨Nat.le_refl _⟩, ⟨by first | exact Kd.R_nil _ _ _ _ _ | exact Kd.N_nil _ _ _ _ _ | exact Kd.V_nil _ _ _ _ _ | exact Kd.Q_nil _ _ _ _ _ | exact Kd.S_nil _ _ _ _ _⟩, ⟨by repeat (first | (with_reducible first | exact HB.out | apply below_alloc | apply pw_below_drewN | apply below_drew1) | exact HB.out)⟩⟩
          case round =>
            clear H'
            try clear c1
            try clear c2
            try clear p2
            try clear q2
            try clear hx2
            try clear qi2
            try clear c3
            try clear c3b0
            try clear c3b1
            try clear c4
            try clear c4b0
            try clear c4b1
            try clear c5
            try clear c6
            try clear c6b0
            try clear c6b1
            try clear hx213_0
            try clear hx213_1
            try clear hx213_2
            try clear hx213_3
            try clear hx213_4
            try clear hx213_5
            try clear hx214_0
            try clear hx214_1
            try clear hx214_2
            try clear hx214_3
            try clear hx214_4
            try clear hx214_5
            try clear p2
            try clear p213
            try clear p214
            try clear q2
            try clear q213
            try clear q214
            obtain ⟨x5_2, x22_2, rfl, HA, HK2, HO_5, HB⟩ := hrel
            cases gk with
            | zero => exact absurd HA.out (by simp [spec_DrawNumbers.l0])
            | succ k2 =>
              have H := HA.out
              clear HA
              simp only [spec_DrawNumbers.l0] at H
              by_cases c7 : x22_2 < (((rd_T49 l0 0).f4).length : Int)
              · rw [if_pos c7] at H
                have c7b0 : decide (x22_2 < (((rd_T49 l0 0).f4).length : Int)) = true := decide_eq_true c7
                clear c7
                by_cases c8 : 0 < (l0.length : Int)
                · rw [if_pos c8] at H
                  have c8b0 : decide (0 < (l0.length : Int)) = true := decide_eq_true c8
                  have c8b1 : decide (0 < l0.length) = true := decide_eq_true (by omega)
                  clear c8
                  replace H := Option.bind_eq_some_iff.mp H
                  obtain ⟨t216, A90, H⟩ := H
                  replace H : (if x5_2.length < 17592186044416 then (spec_DrawNumbers.l0 k2 l0 (x5_2 ++ [t216]) (((rd_T49 l0 0).f4).length : Int) (wrap64 (x22_2 + 1))) else (none)) = some (r1, r2, r3) := H
                  have A9 := Aside0.mk A90
                  clear A90
                  by_cases c10 : x5_2.length < 17592186044416
                  · rw [if_pos c10] at H
                    have LMc10 := Aside0.mk c10
                    clear c10
                    obtain ⟨y217, hy217⟩ : ∃ y_ : List Int, y_ = (x5_2 ++ [t216]) := ⟨_, rfl⟩
                    replace H : (spec_DrawNumbers.l0 k2 l0 y217 (((rd_T49 l0 0).f4).length : Int) (wrap64 (x22_2 + 1))) = some (r1, r2, r3) := by first | (rw [hy217]; with_reducible exact H) | (have H2_ := (Option.bind_some _ _).symm.trans H; rw [hy217]; with_reducible exact H2_) | (have H2_ := (Option.bind_some _ _).symm.trans H; with_reducible exact H2_) | with_reducible exact H | (rw [hy217]; exact H) | exact H
                    have Ny217 := Aside0.mk hy217
                    clear hy217
                    have H' := Aside0.mk H
                    clear H
                    have p215 : 0 ≤ (0 : Int) := (by omega)
                    have q215 : 0 < (l0.length : Int) := of_decide_eq_true (by first | (with_reducible assumption) | assumption)
                    obtain ⟨ad215, A215_4, c215_4, A215_5, c215_5, e215, hx215_0, hx215_1, hx215_2, hx215_3, hx215_4, hx215_5, hl215_4, hi215_4, hl215_5, hi215_5⟩ := at_T49 HR0.out 0 p215 q215
                    obtain rfl : ad214 = ad215 := (by injection e215)
                    have qi215 : (0 < l0.length) = True := eq_true (by omega)
                    (try rw [show ((0 : Int)).toNat = 0 from rfl] at hx215_0)
                    (try rw [show 0 * 6 = 0 from rfl] at hx215_0)
                    (try rw [Addr.add_zero'] at hx215_0)
                    (try rw [show ((0 : Int)).toNat = 0 from rfl] at hx215_1)
                    (try rw [show 0 * 6 = 0 from rfl] at hx215_1)
                    (try rw [Addr.add_zero'] at hx215_1)
                    (try rw [show ((0 : Int)).toNat = 0 from rfl] at hx215_2)
                    (try rw [show 0 * 6 = 0 from rfl] at hx215_2)
                    (try rw [Addr.add_zero'] at hx215_2)
                    (try rw [show ((0 : Int)).toNat = 0 from rfl] at hx215_3)
                    (try rw [show 0 * 6 = 0 from rfl] at hx215_3)
                    (try rw [Addr.add_zero'] at hx215_3)
                    (try rw [show ((0 : Int)).toNat = 0 from rfl] at hx215_4)
                    (try rw [show 0 * 6 = 0 from rfl] at hx215_4)
                    (try rw [Addr.add_zero'] at hx215_4)
                    (try rw [show ((0 : Int)).toNat = 0 from rfl] at hx215_5)
                    (try rw [show 0 * 6 = 0 from rfl] at hx215_5)
                    (try rw [Addr.add_zero'] at hx215_5)
                    replace hx215_0 := (HB.out.cell (World.block_lt_of_cell? w _ hx215_0)).trans hx215_0
                    replace hx215_1 := (HB.out.cell (World.block_lt_of_cell? w _ hx215_1)).trans hx215_1
                    replace hx215_2 := (HB.out.cell (World.block_lt_of_cell? w _ hx215_2)).trans hx215_2
                    replace hx215_3 := (HB.out.cell (World.block_lt_of_cell? w _ hx215_3)).trans hx215_3
                    replace hx215_4 := (HB.out.cell (World.block_lt_of_cell? w _ hx215_4)).trans hx215_4
                    replace hx215_5 := (HB.out.cell (World.block_lt_of_cell? w _ hx215_5)).trans hx215_5
                    have HR215_4 := Aside0.mk hi215_4
                    have HC215_4 := Aside0.mk hl215_4
                    clear hi215_4 hl215_4
                    have HR215_5 := Aside0.mk hi215_5
                    have HC215_5 := Aside0.mk hl215_5
                    clear hi215_5 hl215_5
                    replace p215 := eq_true p215
                    replace q215 := eq_true q215
                    go_wp2_with (first | ((with_reducible refine gate_callee (f := 62) rfl ?_); refine goesL_ (some 31) rfl rfl Tryz.func62 (by kernel_rfl) rfl #[.slice A215_4 ((rd_T49 l0 0).f4).length c215_4, .int .i64 x22_2, .int .i64 (-1)] rfl (by (try simp only [List.map_toArray, List.map_cons, List.map_nil]); first | done | rfl | (simp only [List.length_drop, List.length_take]; rfl)) ?_; (with_reducible refine (spec_DrawParam.calls _ _ ((rd_T49 l0 0).f4) x22_2 (-1) t216 _ ?side1 ?side2 A9.out).mono ?_); (case side1 => repeat (first | exact (Kd.C_below HR215_4.out HB.out) | (with_reducible refine Kd.C_alloc ?_ _) | (with_reducible refine Kd.C_drewN ?_ _) | (with_reducible refine Kd.C_drew ?_))); (case side2 => exact HC215_4.out); rintro e w' ⟨rfl, ⟨nd, rfl⟩⟩; refine ⟨_, rfl, ?_⟩) | ((with_reducible refine gate_builtin (b := .append) (xs := #[.tmp 25, .tmp 32]) rfl ?_); at_builtin; refine Kd.R_append (Kd.int .i64) (w0 := w) w.heap.size rfl (.tmp 25) (.tmp 32) 35 2 (.int .i64 0) 8 rfl Tryz.underlying35 info2 rfl (by decide) (by omega) u5 x5_2 t216 [.int .i64 t216] (fun _ => True) (fun _ => False) rfl rfl ?aP (fun _ hk => hk.elim) ?aF ?aO ?aB ?aS ?aL ?_; (case aP => exact rfl); (case aB => exact (by repeat (first | (with_reducible first | exact HB.out | apply below_alloc | apply pw_below_drewN | apply below_drew1) | exact HB.out))); (case aF => exact (fun _ _ => trivial)); (case aO => exact (by (with_reducible repeat (first | apply Kd.R_alloc | apply Kd.R_drewN | apply Kd.R_drew)); exact HO_5.out)); (case aS => exact (below_size (by repeat (first | (with_reducible first | exact HB.out | apply below_alloc | apply pw_below_drewN | apply below_drew1) | exact HB.out)))); (case aL => have := LMc10.out; omega); intro v218 w11 ho hb hg hat; rw [← Ny217.out] at ho; have n0_ := Aside0.mk (hb); have n1_ := Aside0.mk (ho); clear HB; clear HO_5; have HB := n0_; have HO219 := n1_; clear n0_ n1_; clear ho hb hg hat))
                    go_roundg k2
                    case measure => have := HJ1.out; have := HK2.out; omega
                    case rel => exact ⟨(y217), (wrap64 (x22_2 + 1)), (by first | rfl | (simp; done) | (simp [*]; done)), H', ⟨by have := HJ1.out; have := HK2.out; omega⟩, ⟨by (with_reducible repeat (first | apply Kd.R_alloc | apply Kd.R_drewN | apply Kd.R_drew)); exact HO219.out⟩, ⟨by repeat (first | (with_reducible first | exact HB.out | apply below_alloc | apply pw_below_drewN | apply below_drew1) | exact HB.out)⟩⟩
                  · rw [if_neg c10] at H
                    exact absurd H (by simp)
                · rw [if_neg c8] at H
                  exact absurd H (by simp)
              · rw [if_neg c7] at H
                have c7b0 : decide (x22_2 < (((rd_T49 l0 0).f4).length : Int)) = false := decide_eq_false c7
                clear c7
                by_cases c12 : 0 < (l0.length : Int)
                · rw [if_pos c12] at H
                  have c12b0 : decide (0 < (l0.length : Int)) = true := decide_eq_true c12
                  have c12b1 : decide (0 < l0.length) = true := decide_eq_true (by omega)
                  clear c12
                  simp only [Option.some.injEq, Prod.mk.injEq] at H
                  obtain ⟨rfl, rfl, rfl⟩ := H
                  have p220 : 0 ≤ (0 : Int) := (by omega)
                  have q220 : 0 < (l0.length : Int) := of_decide_eq_true (by first | (with_reducible assumption) | assumption)
                  obtain ⟨ad220, A220_4, c220_4, A220_5, c220_5, e220, hx220_0, hx220_1, hx220_2, hx220_3, hx220_4, hx220_5, hl220_4, hi220_4, hl220_5, hi220_5⟩ := at_T49 HR0.out 0 p220 q220
                  obtain rfl : ad214 = ad220 := (by injection e220)
                  have qi220 : (0 < l0.length) = True := eq_true (by omega)
                  (try rw [show ((0 : Int)).toNat = 0 from rfl] at hx220_0)
                  (try rw [show 0 * 6 = 0 from rfl] at hx220_0)
                  (try rw [Addr.add_zero'] at hx220_0)
                  (try rw [show ((0 : Int)).toNat = 0 from rfl] at hx220_1)
                  (try rw [show 0 * 6 = 0 from rfl] at hx220_1)
                  (try rw [Addr.add_zero'] at hx220_1)
                  (try rw [show ((0 : Int)).toNat = 0 from rfl] at hx220_2)
                  (try rw [show 0 * 6 = 0 from rfl] at hx220_2)
                  (try rw [Addr.add_zero'] at hx220_2)
                  (try rw [show ((0 : Int)).toNat = 0 from rfl] at hx220_3)
                  (try rw [show 0 * 6 = 0 from rfl] at hx220_3)
                  (try rw [Addr.add_zero'] at hx220_3)
                  (try rw [show ((0 : Int)).toNat = 0 from rfl] at hx220_4)
                  (try rw [show 0 * 6 = 0 from rfl] at hx220_4)
                  (try rw [Addr.add_zero'] at hx220_4)
                  (try rw [show ((0 : Int)).toNat = 0 from rfl] at hx220_5)
                  (try rw [show 0 * 6 = 0 from rfl] at hx220_5)
                  (try rw [Addr.add_zero'] at hx220_5)
                  replace hx220_0 := (HB.out.cell (World.block_lt_of_cell? w _ hx220_0)).trans hx220_0
                  replace hx220_1 := (HB.out.cell (World.block_lt_of_cell? w _ hx220_1)).trans hx220_1
                  replace hx220_2 := (HB.out.cell (World.block_lt_of_cell? w _ hx220_2)).trans hx220_2
                  replace hx220_3 := (HB.out.cell (World.block_lt_of_cell? w _ hx220_3)).trans hx220_3
                  replace hx220_4 := (HB.out.cell (World.block_lt_of_cell? w _ hx220_4)).trans hx220_4
                  replace hx220_5 := (HB.out.cell (World.block_lt_of_cell? w _ hx220_5)).trans hx220_5
                  have HR220_4 := Aside0.mk hi220_4
                  have HC220_4 := Aside0.mk hl220_4
                  clear hi220_4 hl220_4
                  have HR220_5 := Aside0.mk hi220_5
                  have HC220_5 := Aside0.mk hl220_5
                  clear hi220_5 hl220_5
                  replace p220 := eq_true p220
                  replace q220 := eq_true q220
                  go_wp2
                  go_ret3
                  exact ⟨_, by first | rfl | (simp [errW_none, errW_some] <;> rfl) | (simp [*, errW_none, errW_some] <;> rfl), by (with_reducible repeat (first | apply Kd.R_alloc | apply Kd.R_drewN | apply Kd.R_drew)); exact HO_5.out, by repeat (first | (with_reducible first | exact HB.out | apply below_alloc | apply pw_below_drewN | apply below_drew1) | exact HB.out)⟩
                · rw [if_neg c12] at H
                  exact absurd H (by simp)
        · rw [if_neg c6] at H
          exact absurd H (by simp)
end Go.Proofs.YtjkpelaeelihhaaGreatDoorRR.Y
end
section
namespace Go.Proofs.YtjkpelaeelihhaaGreatDoorRR.Y
open Go.RowKit Go.Proofs.YtjkpelaeelihhaaGreatDoorRRW.PrintWords Go.Proofs.YtjkpelaeelihhaaGreatDoorRRW.PrintLast Go.Proofs.YtjkpelaeelihhaaGreatDoorRRW.PrintMore
attribute [local go_sem] max2_int min2_int max_two min_two max_three min_three max_four min_four   -- for this text's walks alone
set_option linter.unusedVariables false
set_option linter.unusedSimpArgs false
set_option maxHeartbeats 8000000 in
set_option maxRecDepth 100000 in
theorem xansi_Command.calls (a0 : Int) (a1 : Int) (a2 : Int) (r : Int) (w : World) (h : xansi_Command.f a0 a1 a2 = some r) :
    Calls Tryz.prog 63 #[.int .u8 a0, .int .u8 a1, .int .u8 a2] w fun e w' => e = .returned (.int .i64 r) ∧ Drawn0 w w' := by
  have H : (some (Go.bits .or .i64 (Go.bits .or .i64 (wrap64 (a2)) (wrap64 ((wrap64 (a0)) * 256))) (wrap64 ((wrap64 (a1)) * 65536)))) = some r := h
  clear h
  obtain rfl := Option.some.inj H
  go_enter Tryz.func63, Tryz.ntmps63
  go_wp2
  go_ret
  exact ⟨by first | rfl | (simp; done) | (simp [*]; done), by repeat (first | exact Drawn0.refl _ | apply Drawn0.step)⟩
end Go.Proofs.YtjkpelaeelihhaaGreatDoorRR.Y
end
section
namespace Go.Proofs.YtjkpelaeelihhaaGreatDoorRR.Y
open Go.RowKit Go.Proofs.YtjkpelaeelihhaaGreatDoorRRW.PrintWords Go.Proofs.YtjkpelaeelihhaaGreatDoorRRW.PrintLast Go.Proofs.YtjkpelaeelihhaaGreatDoorRRW.PrintMore
attribute [local go_sem] max2_int min2_int max_two min_two max_three min_three max_four min_four   -- for this text's walks alone
set_option linter.unusedVariables false
set_option linter.unusedSimpArgs false
set_option maxHeartbeats 8000000 in
set_option maxRecDepth 100000 in
theorem impl_Pack.calls (a0 : Int) (a1 : Int) (a2 : Int) (r : Int) (w : World) (h : impl_Pack.f a0 a1 a2 = some r) :
    Calls Tryz.prog 16 #[.int .u8 a0, .int .u8 a1, .int .u8 a2] w fun e w' => e = .returned (.int .i64 r) ∧ Drawn0 w w' := by
  have H : ((xansi_Command.f a0 a1 a2).bind fun t221 => (some t221)) = some r := h
  clear h
  replace H := Option.bind_eq_some_iff.mp H
  obtain ⟨t221, A40, H⟩ := H
  replace H : (some t221) = some r := H
  have A4 := Aside0.mk A40
  clear A40
  obtain rfl := Option.some.inj H
  go_enter Tryz.func16, Tryz.ntmps16
  go_wp2_with (first | ((with_reducible refine gate_callee (f := 63) rfl ?_); refine goesL_ (some 10) rfl rfl Tryz.func63 (by kernel_rfl) rfl #[.int .u8 a0, .int .u8 a1, .int .u8 a2] rfl (by (try simp only [List.map_toArray, List.map_cons, List.map_nil]); first | done | rfl | (simp only [List.length_drop, List.length_take]; rfl)) ?_; (with_reducible refine (xansi_Command.calls a0 a1 a2 t221 _ A4.out).mono ?_); rintro e w' ⟨rfl, ⟨nd, rfl⟩⟩; refine ⟨_, rfl, ?_⟩))
  go_ret
  exact ⟨by first | rfl | (simp; done) | (simp [*]; done), by repeat (first | exact Drawn0.refl _ | apply Drawn0.step)⟩
end Go.Proofs.YtjkpelaeelihhaaGreatDoorRR.Y
end
